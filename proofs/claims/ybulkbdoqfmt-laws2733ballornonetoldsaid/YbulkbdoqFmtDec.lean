/-
  THE WALKS of package decimal: magnitude, coefAt, fit, Add, New; and of the law's own zzs2733bmk.
-/
import Derived.Test.YbulkbdoqFmtRows
import Derived.WalkKit
import Derived.WalkSpells
import Derived.WalkLawsBesides
import Derived.Deep.QuietTactic
import Derived.BigQuiet
import Derived.Deep.RegionHeld3
namespace Go.Proofs.YbulkbdoqFmt
open Go.RowKit

set_option maxHeartbeats 400000 in
theorem mag_any (c : Int) (w : World) (h1 : -9000000000000000000 ≤ c) (h2 : c ≤ 9000000000000000000) :
    Calls Ybaf.prog 12 #[.int .i64 c] w fun e w' => e = .returned (.int .u64 c.natAbs) ∧ w' = w := by
  by_cases h : c < 0
  · have e : (c.natAbs : Int) = -c := by omega
    rw [e]
    go_enter Ybaf.func12, Ybaf.ntmps12
    go_wp2
    go_ret
    exact ⟨rfl, rfl⟩
  · have e : (c.natAbs : Int) = c := by omega
    rw [e]
    go_enter Ybaf.func12, Ybaf.ntmps12
    go_wp2
    go_ret
    exact ⟨rfl, rfl⟩

set_option maxHeartbeats 400000 in
theorem coef_same (c p : Int) (w : World) :
    Calls Ybaf.prog 10 #[.agg #[.int .i64 c, .int .i64 p], .int .i64 p] w fun e w' => e = .returned (.tuple #[.int .i64 c, .bool true]) ∧ Below w.heap.size w w' := by
  go_enter Ybaf.func10, Ybaf.ntmps10
  go_wp2
  go_ret2
  exact ⟨rfl, (Below.refl _ _).alloc (Nat.le_refl _) _⟩

theorem below_drewN {B : Nat} {a w : World} (h : Below B a w) (n : Nat) : Below B a (w.drewN n) := ⟨h.os, h.tape, h.output, h.size, h.block⟩

set_option maxHeartbeats 400000 in
theorem coef_no (c m : Int) (p pl : Nat) (w : World) (hc1 : -999999999999999999 ≤ c) (hc2 : c ≤ 999999999999999999) (hp : p < pl) (hpl : pl ≤ 18) (hw : 1 < w.heap.size) (hm1 : 1 ≤ m) (hm2 : m ≤ 1000000000000000000)
    (hcell : w.cell? ⟨1, pl - p, none⟩ = some (.int .u64 m)) (hgt : 4000000000000000000 / m < (c.natAbs : Int)) :
    Calls Ybaf.prog 10 #[.agg #[.int .i64 c, .int .i64 p], .int .i64 pl] w fun e w' => e = .returned (.tuple #[.int .i64 0, .bool false]) ∧ Below w.heap.size w w' := by
  have hne : ((pl : Int) == (p : Int)) = false := by rw [beq_eq_false_iff_ne]; omega
  go_enter Ybaf.func10, Ybaf.ntmps10
  go_wp2_with fail
  go_quiet ((go_at_call 12; exact Calls.quiet_of_same (mag_any c _ (by omega) (by omega))))
  go_wp2
  go_ret2
  exact ⟨rfl, below_drewN ((Below.refl _ _).alloc (Nat.le_refl _) _) _⟩

set_option maxHeartbeats 400000 in
theorem coef_yes (c m : Int) (p pl : Nat) (w : World) (hc1 : -999999999999999999 ≤ c) (hc2 : c ≤ 999999999999999999) (hp : p < pl) (hpl : pl ≤ 18) (hw : 1 < w.heap.size) (hm1 : 1 ≤ m) (hm2 : m ≤ 1000000000000000000)
    (hcell : w.cell? ⟨1, pl - p, none⟩ = some (.int .u64 m)) (hgt : ¬ 4000000000000000000 / m < (c.natAbs : Int)) (hb1 : -4000000000000000000 ≤ c * m) (hb2 : c * m ≤ 4000000000000000000) :
    Calls Ybaf.prog 10 #[.agg #[.int .i64 c, .int .i64 p], .int .i64 pl] w fun e w' => e = .returned (.tuple #[.int .i64 (c * m), .bool true]) ∧ Below w.heap.size w w' := by
  have hne : ((pl : Int) == (p : Int)) = false := by rw [beq_eq_false_iff_ne]; omega
  go_enter Ybaf.func10, Ybaf.ntmps10
  go_wp2_with fail
  go_quiet ((go_at_call 12; exact Calls.quiet_of_same (mag_any c _ (by omega) (by omega))))
  go_wp2
  go_ret2
  exact ⟨rfl, below_drewN ((Below.refl _ _).alloc (Nat.le_refl _) _) _⟩

set_option maxHeartbeats 400000 in
theorem fit_yes (lo : Int) (p : Int) (neg : Bool) (w : World) (h0 : 0 ≤ lo) (h1 : lo ≤ 999999999999999999) :
    Calls Ybaf.prog 11 #[.agg #[.int .u64 0, .int .u64 lo], .int .i64 p, .bool neg] w fun e w' => e = .returned (.tuple #[.agg #[.int .i64 (if neg then -lo else lo), .int .i64 p], .nilIface]) ∧ Below w.heap.size w w' := by
  cases neg
  · go_enter Ybaf.func11, Ybaf.ntmps11
    go_wp2
    refine bodyPost_ret (v := .tuple #[.agg #[.int .i64 lo, .int .i64 p], .nilIface]) (by simp [results, Ybaf.results11, go_sem]) rfl ⟨rfl, ?_⟩
    exact ((Below.refl _ _).alloc (Nat.le_refl _) _).alloc (by simp) _
  · go_enter Ybaf.func11, Ybaf.ntmps11
    go_wp2
    refine bodyPost_ret (v := .tuple #[.agg #[.int .i64 (-lo), .int .i64 p], .nilIface]) (by simp [results, Ybaf.results11, go_sem]) rfl ⟨rfl, ?_⟩
    exact ((Below.refl _ _).alloc (Nat.le_refl _) _).alloc (by simp) _

set_option maxHeartbeats 400000 in
theorem fit_no (lo : Int) (p : Int) (neg : Bool) (T : TypeId) (a0 : Addr) (w : World) (hw : 0 < w.heap.size) (h1 : 999999999999999999 < lo) (hg : w.cell? ⟨0, 0, none⟩ = some (.iface T (.pointer (some a0)))) :
    Calls Ybaf.prog 11 #[.agg #[.int .u64 0, .int .u64 lo], .int .i64 p, .bool neg] w fun e w' => e = .returned (.tuple #[.agg #[.int .i64 0, .int .i64 0], .iface T (.pointer (some a0))]) ∧ Below w.heap.size w w' := by
  go_enter Ybaf.func11, Ybaf.ntmps11
  go_wp2
  go_region
  all_goals
    go_wp2
    refine bodyPost_ret (v := .tuple #[.agg #[.int .i64 0, .int .i64 0], .iface T (.pointer (some a0))]) (by simp [results, Ybaf.results11, go_sem]) rfl ⟨rfl, ?_⟩
    exact (((Below.refl _ _).alloc (Nat.le_refl _) _).alloc (by simp) _).drew

/-- 10^k, as the table holds it. -/
def P10 (k : Nat) : Int := (10 : Int) ^ k

theorem P10_bounds (k : Nat) (h : k ≤ 18) : 1 ≤ P10 k ∧ P10 k ≤ 1000000000000000000 := by
  have h' : ∀ j : Nat, j ≤ 18 → 1 ≤ P10 j ∧ P10 j ≤ 1000000000000000000 := by decide
  exact h' k h

/-- What coefAt hands back. -/
def coefF (c : Int) (p pl : Nat) : Int × Bool :=
  if pl = p then (c, true) else if 4000000000000000000 / P10 (pl - p) < (c.natAbs : Int) then (0, false) else (c * P10 (pl - p), true)

theorem coefF_bounds (c : Int) (p pl : Nat) (hc1 : -999999999999999999 ≤ c) (hc2 : c ≤ 999999999999999999) (hp : p ≤ pl) (hpl : pl ≤ 18) : -4000000000000000000 ≤ (coefF c p pl).1 ∧ (coefF c p pl).1 ≤ 4000000000000000000 := by
  unfold coefF
  by_cases h : pl = p
  · rw [if_pos h]; simp only; omega
  · rw [if_neg h]
    by_cases h2 : 4000000000000000000 / P10 (pl - p) < (c.natAbs : Int)
    · rw [if_pos h2]; simp
    · rw [if_neg h2]
      simp only
      obtain ⟨hm1, hm2⟩ := P10_bounds (pl - p) (by omega)
      generalize P10 (pl - p) = m at *
      have h3 : (c.natAbs : Int) * m ≤ 4000000000000000000 := by
        have h4 : (c.natAbs : Int) ≤ 4000000000000000000 / m := by omega
        have h5 := Int.mul_le_mul_of_nonneg_right h4 (show (0 : Int) ≤ m by omega)
        have h6 := Int.ediv_mul_le 4000000000000000000 (show m ≠ 0 by omega)
        omega
      have h7 : (c * m).natAbs = c.natAbs * m.natAbs := Int.natAbs_mul c m
      have h8 : (m.natAbs : Int) = m := by omega
      have h9 : ((c * m).natAbs : Int) ≤ 4000000000000000000 := by
        rw [h7, Int.natCast_mul, h8]; exact h3
      omega

theorem coef_any (c : Int) (p pl : Nat) (a : Int) (ok : Bool) (w : World) (hc1 : -999999999999999999 ≤ c) (hc2 : c ≤ 999999999999999999) (hp : p ≤ pl) (hpl : pl ≤ 18) (hw : 1 < w.heap.size)
    (hpow : ∀ k, k < 20 → w.cell? ⟨1, k, none⟩ = some (.int .u64 (P10 k))) (hA : coefF c p pl = (a, ok)) :
    Calls Ybaf.prog 10 #[.agg #[.int .i64 c, .int .i64 p], .int .i64 pl] w fun e w' => e = .returned (.tuple #[.int .i64 a, .bool ok]) ∧ Below w.heap.size w w' := by
  have hb := coefF_bounds c p pl hc1 hc2 hp hpl
  rw [hA] at hb
  unfold coefF at hA
  by_cases h : pl = p
  · rw [if_pos h] at hA
    obtain ⟨rfl, rfl⟩ := Prod.mk.inj hA
    subst h
    exact coef_same c pl w
  · rw [if_neg h] at hA
    obtain ⟨hm1, hm2⟩ := P10_bounds (pl - p) (by omega)
    by_cases h2 : 4000000000000000000 / P10 (pl - p) < (c.natAbs : Int)
    · rw [if_pos h2] at hA
      obtain ⟨rfl, rfl⟩ := Prod.mk.inj hA
      exact coef_no c _ p pl w hc1 hc2 (by omega) hpl hw hm1 hm2 (hpow _ (by omega)) h2
    · rw [if_neg h2] at hA
      obtain ⟨rfl, rfl⟩ := Prod.mk.inj hA
      exact coef_yes c _ p pl w hc1 hc2 (by omega) hpl hw hm1 hm2 (hpow _ (by omega)) h2 hb.1 hb.2

theorem bcell {W w1 : World} (hb : Below W.heap.size W w1) : (∀ b o, b < W.heap.size → w1.cell? ⟨b, o, none⟩ = W.cell? ⟨b, o, none⟩) ∧ (∀ b o, b < W.heap.size → w1.frozen? ⟨b, o, none⟩ = W.frozen? ⟨b, o, none⟩) :=
  ⟨fun b o h => hb.cell (p := ⟨b, o, none⟩) h, fun b o h => hb.frozen (p := ⟨b, o, none⟩) h⟩

/-- The sum of two decimals, or none where it is out of range. -/
def addF (c1 : Int) (p1 : Nat) (c2 : Int) (p2 : Nat) : Option (Int × Nat) :=
  if (coefF c1 p1 (max p1 p2)).2 = false ∨ (coefF c2 p2 (max p1 p2)).2 = false then none
  else if 999999999999999999 < ((coefF c1 p1 (max p1 p2)).1 + (coefF c2 p2 (max p1 p2)).1).natAbs then none
  else some ((coefF c1 p1 (max p1 p2)).1 + (coefF c2 p2 (max p1 p2)).1, max p1 p2)

/-- The table of the powers of ten, where the program's second variable lies. -/
def Pows (w : World) : Prop := 1 < w.heap.size ∧ ∀ k, k < 20 → w.cell? ⟨1, k, none⟩ = some (.int .u64 (P10 k))
theorem Pows.below {B : Nat} {w w' : World} (h : Pows w) (hb : Below B w w') (hB : 1 < B) : Pows w' :=
  ⟨Nat.lt_of_lt_of_le h.1 hb.size, fun k hk => by rw [hb.cell (p := ⟨1, k, none⟩) hB]; exact h.2 k hk⟩

theorem three (w : World) (o1 o2 o3 : Obj) : Below w.heap.size w (((w.alloc o1).alloc o2).alloc o3) :=
  ((((Below.refl _ _).alloc (Nat.le_refl _) _).alloc (by simp) _).alloc (by simp; omega) _)

theorem three_cells (w : World) (o1 o2 : Obj) (x y : Value) (t : TypeId) : (((w.alloc o1).alloc o2).alloc (.cells #[x, y] t)).cell? ⟨w.heap.size + 1 + 1, 0, none⟩ = some x ∧ (((w.alloc o1).alloc o2).alloc (.cells #[x, y] t)).cell? ⟨w.heap.size + 1 + 1, 1, none⟩ = some y ∧
    (((w.alloc o1).alloc o2).alloc (.cells #[x, y] t)).frozen? ⟨w.heap.size + 1 + 1, 0, none⟩ = false ∧ (((w.alloc o1).alloc o2).alloc (.cells #[x, y] t)).frozen? ⟨w.heap.size + 1 + 1, 1, none⟩ = false := by
  go_simp

theorem sign_back (s : Int) : (if decide (s < 0) = true then -(s.natAbs : Int) else (s.natAbs : Int)) = s := by
  by_cases h : s < 0
  · rw [if_pos (by simpa using h)]; omega
  · rw [if_neg (by simpa using h)]; omega

set_option maxHeartbeats 1000000 in
theorem add_ok (c1 c2 : Int) (p1 p2 pl : Nat) (a b : Int) (w : World) (h11 : -999999999999999999 ≤ c1) (h12 : c1 ≤ 999999999999999999) (h21 : -999999999999999999 ≤ c2) (h22 : c2 ≤ 999999999999999999) (hp1 : p1 ≤ 18) (hp2 : p2 ≤ 18) (hpl : pl = max p1 p2)
    (hpow : Pows w) (hA : coefF c1 p1 pl = (a, true)) (hB : coefF c2 p2 pl = (b, true)) (hfit : (a + b).natAbs ≤ 999999999999999999) :
    Calls Ybaf.prog 5 #[.agg #[.int .i64 c1, .int .i64 p1], .agg #[.int .i64 c2, .int .i64 p2]] w fun e w' => e = .returned (.tuple #[.agg #[.int .i64 (a + b), .int .i64 pl], .nilIface]) ∧ Below w.heap.size w w' := by
  have ba := coefF_bounds c1 p1 pl h11 h12 (by omega) (by omega)
  have bb := coefF_bounds c2 p2 pl h21 h22 (by omega) (by omega)
  rw [hA] at ba
  rw [hB] at bb
  obtain ⟨ba1, ba2⟩ := ba
  obtain ⟨bb1, bb2⟩ := bb
  have HA : Hid (coefF c1 p1 pl = (a, true)) := hA
  have HB : Hid (coefF c2 p2 pl = (b, true)) := hB
  have hw := hpow.1
  clear hA hB
  simp only at ba1 ba2 bb1 bb2
  by_cases hlt : p1 < p2
  · obtain rfl : pl = p2 := by omega
    clear hpl
    go_enter Ybaf.func5, Ybaf.ntmps5
    go_wp2_with fail
    refine (coef_any c1 p1 _ a true _ h11 h12 (by omega) (by omega) (by simp) (hpow.below (three _ _ _ _) hw).2 HA.out).mono ?_
    rintro e w1 ⟨rfl, hb1⟩
    obtain ⟨hc, hf⟩ := bcell hb1
    have hz : w.heap.size + 1 + 1 < w1.heap.size := by have := hb1.size; simp at this; omega
    have hpow1 : Pows w1 := (hpow.below (three _ _ _ _) hw).below hb1 (by simp)
    go_wp2_with fail
    refine (coef_any c2 _ _ b true _ h21 h22 (by omega) (by omega) (by omega) hpow1.2 HB.out).mono ?_
    rintro e w2 ⟨rfl, hb2⟩
    clear hc hf
    go_wp2_with fail
    refine (mag_any (a + b) _ (by omega) (by omega)).mono ?_
    rintro e w3 ⟨rfl, hw3⟩
    subst hw3
    go_wp2_with fail
    refine (fit_yes ((a + b).natAbs : Int) _ _ _ (by omega) (by omega)).mono ?_
    rintro e w4 ⟨rfl, hb4⟩
    rw [sign_back (a + b)]
    have hbW := hb1.trans ((hb2.mono hb1.size).trans (hb4.mono (Nat.le_trans hb1.size hb2.size)))
    have q0 : w4.cell? ⟨w.heap.size + 1 + 1, 0, none⟩ = some (.int .i64 0) := (hbW.cell (p := ⟨w.heap.size + 1 + 1, 0, none⟩) (by simp)).trans (three_cells _ _ _ _ _ _).1
    have q1 : w4.cell? ⟨w.heap.size + 1 + 1, 1, none⟩ = some (.int .i64 0) := (hbW.cell (p := ⟨w.heap.size + 1 + 1, 1, none⟩) (by simp)).trans (three_cells _ _ _ _ _ _).2.1
    have f0 : w4.frozen? ⟨w.heap.size + 1 + 1, 0, none⟩ = false := (hbW.frozen (p := ⟨w.heap.size + 1 + 1, 0, none⟩) (by simp)).trans (three_cells _ _ _ _ _ _).2.2.1
    have f1 : w4.frozen? ⟨w.heap.size + 1 + 1, 1, none⟩ = false := (hbW.frozen (p := ⟨w.heap.size + 1 + 1, 1, none⟩) (by simp)).trans (three_cells _ _ _ _ _ _).2.2.2
    have fin := (three w _ _ _).trans (hbW.mono (by simp; omega))
    clear hb1 hb2 hb4 hbW hz hpow hpow1
    go_wp2
    refine bodyPost_ret (v := .tuple #[.agg #[.int .i64 (a + b), .int .i64 pl], .nilIface]) (by simp [results, Ybaf.results5, go_sem, q0, q1]) rfl ⟨rfl, ?_⟩
    exact (fin.setCell (by simp; omega) _).setCell (by simp; omega) _
  · obtain rfl : pl = p1 := by omega
    clear hpl
    go_enter Ybaf.func5, Ybaf.ntmps5
    go_wp2_with fail
    refine (coef_any c1 _ _ a true _ h11 h12 (by omega) (by omega) (by simp) (hpow.below (three _ _ _ _) hw).2 HA.out).mono ?_
    rintro e w1 ⟨rfl, hb1⟩
    obtain ⟨hc, hf⟩ := bcell hb1
    have hz : w.heap.size + 1 + 1 < w1.heap.size := by have := hb1.size; simp at this; omega
    have hpow1 : Pows w1 := (hpow.below (three _ _ _ _) hw).below hb1 (by simp)
    go_wp2_with fail
    refine (coef_any c2 p2 _ b true _ h21 h22 (by omega) (by omega) (by omega) hpow1.2 HB.out).mono ?_
    rintro e w2 ⟨rfl, hb2⟩
    clear hc hf
    go_wp2_with fail
    refine (mag_any (a + b) _ (by omega) (by omega)).mono ?_
    rintro e w3 ⟨rfl, hw3⟩
    subst hw3
    go_wp2_with fail
    refine (fit_yes ((a + b).natAbs : Int) _ _ _ (by omega) (by omega)).mono ?_
    rintro e w4 ⟨rfl, hb4⟩
    rw [sign_back (a + b)]
    have hbW := hb1.trans ((hb2.mono hb1.size).trans (hb4.mono (Nat.le_trans hb1.size hb2.size)))
    have q0 : w4.cell? ⟨w.heap.size + 1 + 1, 0, none⟩ = some (.int .i64 0) := (hbW.cell (p := ⟨w.heap.size + 1 + 1, 0, none⟩) (by simp)).trans (three_cells _ _ _ _ _ _).1
    have q1 : w4.cell? ⟨w.heap.size + 1 + 1, 1, none⟩ = some (.int .i64 0) := (hbW.cell (p := ⟨w.heap.size + 1 + 1, 1, none⟩) (by simp)).trans (three_cells _ _ _ _ _ _).2.1
    have f0 : w4.frozen? ⟨w.heap.size + 1 + 1, 0, none⟩ = false := (hbW.frozen (p := ⟨w.heap.size + 1 + 1, 0, none⟩) (by simp)).trans (three_cells _ _ _ _ _ _).2.2.1
    have f1 : w4.frozen? ⟨w.heap.size + 1 + 1, 1, none⟩ = false := (hbW.frozen (p := ⟨w.heap.size + 1 + 1, 1, none⟩) (by simp)).trans (three_cells _ _ _ _ _ _).2.2.2
    have fin := (three w _ _ _).trans (hbW.mono (by simp; omega))
    clear hb1 hb2 hb4 hbW hz hpow hpow1
    go_wp2
    refine bodyPost_ret (v := .tuple #[.agg #[.int .i64 (a + b), .int .i64 pl], .nilIface]) (by simp [results, Ybaf.results5, go_sem, q0, q1]) rfl ⟨rfl, ?_⟩
    exact (fin.setCell (by simp; omega) _).setCell (by simp; omega) _

set_option maxHeartbeats 1000000 in
theorem add_big (c1 c2 : Int) (p1 p2 pl : Nat) (a b : Int) (T : TypeId) (a0 : Addr) (w : World) (h11 : -999999999999999999 ≤ c1) (h12 : c1 ≤ 999999999999999999) (h21 : -999999999999999999 ≤ c2) (h22 : c2 ≤ 999999999999999999) (hp1 : p1 ≤ 18) (hp2 : p2 ≤ 18) (hpl : pl = max p1 p2)
    (hpow : Pows w) (hg : w.cell? ⟨0, 0, none⟩ = some (.iface T (.pointer (some a0)))) (hA : coefF c1 p1 pl = (a, true)) (hB : coefF c2 p2 pl = (b, true)) (hfit : 999999999999999999 < (a + b).natAbs) :
    Calls Ybaf.prog 5 #[.agg #[.int .i64 c1, .int .i64 p1], .agg #[.int .i64 c2, .int .i64 p2]] w fun e w' => e = .returned (.tuple #[.agg #[.int .i64 0, .int .i64 0], .iface T (.pointer (some a0))]) ∧ Below w.heap.size w w' := by
  have ba := coefF_bounds c1 p1 pl h11 h12 (by omega) (by omega)
  have bb := coefF_bounds c2 p2 pl h21 h22 (by omega) (by omega)
  rw [hA] at ba
  rw [hB] at bb
  obtain ⟨ba1, ba2⟩ := ba
  obtain ⟨bb1, bb2⟩ := bb
  have HA : Hid (coefF c1 p1 pl = (a, true)) := hA
  have HB : Hid (coefF c2 p2 pl = (b, true)) := hB
  have hw := hpow.1
  clear hA hB
  simp only at ba1 ba2 bb1 bb2
  by_cases hlt : p1 < p2
  · obtain rfl : pl = p2 := by omega
    clear hpl
    go_enter Ybaf.func5, Ybaf.ntmps5
    go_wp2_with fail
    refine (coef_any c1 p1 _ a true _ h11 h12 (by omega) (by omega) (by simp) (hpow.below (three _ _ _ _) hw).2 HA.out).mono ?_
    rintro e w1 ⟨rfl, hb1⟩
    obtain ⟨hc, hf⟩ := bcell hb1
    have hz : w.heap.size + 1 + 1 < w1.heap.size := by have := hb1.size; simp at this; omega
    have hpow1 : Pows w1 := (hpow.below (three _ _ _ _) hw).below hb1 (by simp)
    go_wp2_with fail
    refine (coef_any c2 _ _ b true _ h21 h22 (by omega) (by omega) (by omega) hpow1.2 HB.out).mono ?_
    rintro e w2 ⟨rfl, hb2⟩
    clear hc hf
    have hg2 : w2.cell? ⟨0, 0, none⟩ = some (.iface T (.pointer (some a0))) := by rw [hb2.cell (p := ⟨0, 0, none⟩) (by show 0 < w1.heap.size; omega), hb1.cell (p := ⟨0, 0, none⟩) (by simp), (three w _ _ _).cell (p := ⟨0, 0, none⟩) (by show 0 < w.heap.size; omega)]; exact hg
    have hz2 := hb2.size
    go_wp2_with fail
    refine (mag_any (a + b) _ (by omega) (by omega)).mono ?_
    rintro e w3 ⟨rfl, hw3⟩
    subst hw3
    go_wp2_with fail
    refine (fit_no ((a + b).natAbs : Int) _ _ T a0 _ (by omega) (by omega) hg2).mono ?_
    rintro e w4 ⟨rfl, hb4⟩
    have hbW := hb1.trans ((hb2.mono hb1.size).trans (hb4.mono (Nat.le_trans hb1.size hb2.size)))
    have q0 : w4.cell? ⟨w.heap.size + 1 + 1, 0, none⟩ = some (.int .i64 0) := (hbW.cell (p := ⟨w.heap.size + 1 + 1, 0, none⟩) (by simp)).trans (three_cells _ _ _ _ _ _).1
    have q1 : w4.cell? ⟨w.heap.size + 1 + 1, 1, none⟩ = some (.int .i64 0) := (hbW.cell (p := ⟨w.heap.size + 1 + 1, 1, none⟩) (by simp)).trans (three_cells _ _ _ _ _ _).2.1
    have f0 : w4.frozen? ⟨w.heap.size + 1 + 1, 0, none⟩ = false := (hbW.frozen (p := ⟨w.heap.size + 1 + 1, 0, none⟩) (by simp)).trans (three_cells _ _ _ _ _ _).2.2.1
    have f1 : w4.frozen? ⟨w.heap.size + 1 + 1, 1, none⟩ = false := (hbW.frozen (p := ⟨w.heap.size + 1 + 1, 1, none⟩) (by simp)).trans (three_cells _ _ _ _ _ _).2.2.2
    have fin := (three w _ _ _).trans (hbW.mono (by simp; omega))
    clear hb1 hb2 hb4 hbW hz hpow hpow1 hg hg2
    go_wp2
    refine bodyPost_ret (v := .tuple #[.agg #[.int .i64 0, .int .i64 0], .iface T (.pointer (some a0))]) (by simp [results, Ybaf.results5, go_sem, q0, q1]) rfl ⟨rfl, ?_⟩
    exact (fin.setCell (by simp; omega) _).setCell (by simp; omega) _
  · obtain rfl : pl = p1 := by omega
    clear hpl
    go_enter Ybaf.func5, Ybaf.ntmps5
    go_wp2_with fail
    refine (coef_any c1 _ _ a true _ h11 h12 (by omega) (by omega) (by simp) (hpow.below (three _ _ _ _) hw).2 HA.out).mono ?_
    rintro e w1 ⟨rfl, hb1⟩
    obtain ⟨hc, hf⟩ := bcell hb1
    have hz : w.heap.size + 1 + 1 < w1.heap.size := by have := hb1.size; simp at this; omega
    have hpow1 : Pows w1 := (hpow.below (three _ _ _ _) hw).below hb1 (by simp)
    go_wp2_with fail
    refine (coef_any c2 p2 _ b true _ h21 h22 (by omega) (by omega) (by omega) hpow1.2 HB.out).mono ?_
    rintro e w2 ⟨rfl, hb2⟩
    clear hc hf
    have hg2 : w2.cell? ⟨0, 0, none⟩ = some (.iface T (.pointer (some a0))) := by rw [hb2.cell (p := ⟨0, 0, none⟩) (by show 0 < w1.heap.size; omega), hb1.cell (p := ⟨0, 0, none⟩) (by simp), (three w _ _ _).cell (p := ⟨0, 0, none⟩) (by show 0 < w.heap.size; omega)]; exact hg
    have hz2 := hb2.size
    go_wp2_with fail
    refine (mag_any (a + b) _ (by omega) (by omega)).mono ?_
    rintro e w3 ⟨rfl, hw3⟩
    subst hw3
    go_wp2_with fail
    refine (fit_no ((a + b).natAbs : Int) _ _ T a0 _ (by omega) (by omega) hg2).mono ?_
    rintro e w4 ⟨rfl, hb4⟩
    have hbW := hb1.trans ((hb2.mono hb1.size).trans (hb4.mono (Nat.le_trans hb1.size hb2.size)))
    have q0 : w4.cell? ⟨w.heap.size + 1 + 1, 0, none⟩ = some (.int .i64 0) := (hbW.cell (p := ⟨w.heap.size + 1 + 1, 0, none⟩) (by simp)).trans (three_cells _ _ _ _ _ _).1
    have q1 : w4.cell? ⟨w.heap.size + 1 + 1, 1, none⟩ = some (.int .i64 0) := (hbW.cell (p := ⟨w.heap.size + 1 + 1, 1, none⟩) (by simp)).trans (three_cells _ _ _ _ _ _).2.1
    have f0 : w4.frozen? ⟨w.heap.size + 1 + 1, 0, none⟩ = false := (hbW.frozen (p := ⟨w.heap.size + 1 + 1, 0, none⟩) (by simp)).trans (three_cells _ _ _ _ _ _).2.2.1
    have f1 : w4.frozen? ⟨w.heap.size + 1 + 1, 1, none⟩ = false := (hbW.frozen (p := ⟨w.heap.size + 1 + 1, 1, none⟩) (by simp)).trans (three_cells _ _ _ _ _ _).2.2.2
    have fin := (three w _ _ _).trans (hbW.mono (by simp; omega))
    clear hb1 hb2 hb4 hbW hz hpow hpow1 hg hg2
    go_wp2
    refine bodyPost_ret (v := .tuple #[.agg #[.int .i64 0, .int .i64 0], .iface T (.pointer (some a0))]) (by simp [results, Ybaf.results5, go_sem, q0, q1]) rfl ⟨rfl, ?_⟩
    exact (fin.setCell (by simp; omega) _).setCell (by simp; omega) _

set_option maxHeartbeats 1000000 in
theorem add_no1 (c1 c2 : Int) (p1 p2 pl : Nat) (a b : Int) (T : TypeId) (a0 : Addr) (w : World) (h11 : -999999999999999999 ≤ c1) (h12 : c1 ≤ 999999999999999999) (h21 : -999999999999999999 ≤ c2) (h22 : c2 ≤ 999999999999999999) (hp1 : p1 ≤ 18) (hp2 : p2 ≤ 18) (hpl : pl = max p1 p2)
    (hpow : Pows w) (hg : w.cell? ⟨0, 0, none⟩ = some (.iface T (.pointer (some a0)))) (ok : Bool) (hA : coefF c1 p1 pl = (a, false)) (hB : coefF c2 p2 pl = (b, ok)) :
    Calls Ybaf.prog 5 #[.agg #[.int .i64 c1, .int .i64 p1], .agg #[.int .i64 c2, .int .i64 p2]] w fun e w' => e = .returned (.tuple #[.agg #[.int .i64 0, .int .i64 0], .iface T (.pointer (some a0))]) ∧ Below w.heap.size w w' := by
  have ba := coefF_bounds c1 p1 pl h11 h12 (by omega) (by omega)
  have bb := coefF_bounds c2 p2 pl h21 h22 (by omega) (by omega)
  rw [hA] at ba
  rw [hB] at bb
  obtain ⟨ba1, ba2⟩ := ba
  obtain ⟨bb1, bb2⟩ := bb
  have HA : Hid (coefF c1 p1 pl = (a, false)) := hA
  have HB : Hid (coefF c2 p2 pl = (b, ok)) := hB
  have hw := hpow.1
  clear hA hB
  simp only at ba1 ba2 bb1 bb2
  by_cases hlt : p1 < p2
  · obtain rfl : pl = p2 := by omega
    clear hpl
    go_enter Ybaf.func5, Ybaf.ntmps5
    go_wp2_with fail
    refine (coef_any c1 p1 _ a false _ h11 h12 (by omega) (by omega) (by simp) (hpow.below (three _ _ _ _) hw).2 HA.out).mono ?_
    rintro e w1 ⟨rfl, hb1⟩
    obtain ⟨hc, hf⟩ := bcell hb1
    have hz : w.heap.size + 1 + 1 < w1.heap.size := by have := hb1.size; simp at this; omega
    have hpow1 : Pows w1 := (hpow.below (three _ _ _ _) hw).below hb1 (by simp)
    go_wp2_with fail
    refine (coef_any c2 _ _ b ok _ h21 h22 (by omega) (by omega) (by omega) hpow1.2 HB.out).mono ?_
    rintro e w2 ⟨rfl, hb2⟩
    clear hc hf
    have hbW := hb1.trans (hb2.mono hb1.size)
    have hg2 : w2.cell? ⟨0, 0, none⟩ = some (.iface T (.pointer (some a0))) := by rw [hbW.cell (p := ⟨0, 0, none⟩) (by simp), (three w _ _ _).cell (p := ⟨0, 0, none⟩) (by show 0 < w.heap.size; omega)]; exact hg
    have q0 : w2.cell? ⟨w.heap.size + 1 + 1, 0, none⟩ = some (.int .i64 0) := (hbW.cell (p := ⟨w.heap.size + 1 + 1, 0, none⟩) (by simp)).trans (three_cells _ _ _ _ _ _).1
    have q1 : w2.cell? ⟨w.heap.size + 1 + 1, 1, none⟩ = some (.int .i64 0) := (hbW.cell (p := ⟨w.heap.size + 1 + 1, 1, none⟩) (by simp)).trans (three_cells _ _ _ _ _ _).2.1
    have f0 : w2.frozen? ⟨w.heap.size + 1 + 1, 0, none⟩ = false := (hbW.frozen (p := ⟨w.heap.size + 1 + 1, 0, none⟩) (by simp)).trans (three_cells _ _ _ _ _ _).2.2.1
    have f1 : w2.frozen? ⟨w.heap.size + 1 + 1, 1, none⟩ = false := (hbW.frozen (p := ⟨w.heap.size + 1 + 1, 1, none⟩) (by simp)).trans (three_cells _ _ _ _ _ _).2.2.2
    have fin := (three w _ _ _).trans (hbW.mono (by simp; omega))
    clear hb1 hb2 hbW hz hpow hpow1 hg
    go_wp2
    go_region
    all_goals
      go_wp2
      refine bodyPost_ret (v := .tuple #[.agg #[.int .i64 0, .int .i64 0], .iface T (.pointer (some a0))]) (by simp [results, Ybaf.results5, go_sem, q0, q1]) rfl ⟨rfl, ?_⟩
      exact ((fin.setCell (by simp; omega) _).setCell (by simp; omega) _).drew
  · obtain rfl : pl = p1 := by omega
    clear hpl
    go_enter Ybaf.func5, Ybaf.ntmps5
    go_wp2_with fail
    refine (coef_any c1 _ _ a false _ h11 h12 (by omega) (by omega) (by simp) (hpow.below (three _ _ _ _) hw).2 HA.out).mono ?_
    rintro e w1 ⟨rfl, hb1⟩
    obtain ⟨hc, hf⟩ := bcell hb1
    have hz : w.heap.size + 1 + 1 < w1.heap.size := by have := hb1.size; simp at this; omega
    have hpow1 : Pows w1 := (hpow.below (three _ _ _ _) hw).below hb1 (by simp)
    go_wp2_with fail
    refine (coef_any c2 p2 _ b ok _ h21 h22 (by omega) (by omega) (by omega) hpow1.2 HB.out).mono ?_
    rintro e w2 ⟨rfl, hb2⟩
    clear hc hf
    have hbW := hb1.trans (hb2.mono hb1.size)
    have hg2 : w2.cell? ⟨0, 0, none⟩ = some (.iface T (.pointer (some a0))) := by rw [hbW.cell (p := ⟨0, 0, none⟩) (by simp), (three w _ _ _).cell (p := ⟨0, 0, none⟩) (by show 0 < w.heap.size; omega)]; exact hg
    have q0 : w2.cell? ⟨w.heap.size + 1 + 1, 0, none⟩ = some (.int .i64 0) := (hbW.cell (p := ⟨w.heap.size + 1 + 1, 0, none⟩) (by simp)).trans (three_cells _ _ _ _ _ _).1
    have q1 : w2.cell? ⟨w.heap.size + 1 + 1, 1, none⟩ = some (.int .i64 0) := (hbW.cell (p := ⟨w.heap.size + 1 + 1, 1, none⟩) (by simp)).trans (three_cells _ _ _ _ _ _).2.1
    have f0 : w2.frozen? ⟨w.heap.size + 1 + 1, 0, none⟩ = false := (hbW.frozen (p := ⟨w.heap.size + 1 + 1, 0, none⟩) (by simp)).trans (three_cells _ _ _ _ _ _).2.2.1
    have f1 : w2.frozen? ⟨w.heap.size + 1 + 1, 1, none⟩ = false := (hbW.frozen (p := ⟨w.heap.size + 1 + 1, 1, none⟩) (by simp)).trans (three_cells _ _ _ _ _ _).2.2.2
    have fin := (three w _ _ _).trans (hbW.mono (by simp; omega))
    clear hb1 hb2 hbW hz hpow hpow1 hg
    go_wp2
    go_region
    all_goals
      go_wp2
      refine bodyPost_ret (v := .tuple #[.agg #[.int .i64 0, .int .i64 0], .iface T (.pointer (some a0))]) (by simp [results, Ybaf.results5, go_sem, q0, q1]) rfl ⟨rfl, ?_⟩
      exact ((fin.setCell (by simp; omega) _).setCell (by simp; omega) _).drew

set_option maxHeartbeats 1000000 in
theorem add_no2 (c1 c2 : Int) (p1 p2 pl : Nat) (a b : Int) (T : TypeId) (a0 : Addr) (w : World) (h11 : -999999999999999999 ≤ c1) (h12 : c1 ≤ 999999999999999999) (h21 : -999999999999999999 ≤ c2) (h22 : c2 ≤ 999999999999999999) (hp1 : p1 ≤ 18) (hp2 : p2 ≤ 18) (hpl : pl = max p1 p2)
    (hpow : Pows w) (hg : w.cell? ⟨0, 0, none⟩ = some (.iface T (.pointer (some a0)))) (hA : coefF c1 p1 pl = (a, true)) (hB : coefF c2 p2 pl = (b, false)) :
    Calls Ybaf.prog 5 #[.agg #[.int .i64 c1, .int .i64 p1], .agg #[.int .i64 c2, .int .i64 p2]] w fun e w' => e = .returned (.tuple #[.agg #[.int .i64 0, .int .i64 0], .iface T (.pointer (some a0))]) ∧ Below w.heap.size w w' := by
  have ba := coefF_bounds c1 p1 pl h11 h12 (by omega) (by omega)
  have bb := coefF_bounds c2 p2 pl h21 h22 (by omega) (by omega)
  rw [hA] at ba
  rw [hB] at bb
  obtain ⟨ba1, ba2⟩ := ba
  obtain ⟨bb1, bb2⟩ := bb
  have HA : Hid (coefF c1 p1 pl = (a, true)) := hA
  have HB : Hid (coefF c2 p2 pl = (b, false)) := hB
  have hw := hpow.1
  clear hA hB
  simp only at ba1 ba2 bb1 bb2
  by_cases hlt : p1 < p2
  · obtain rfl : pl = p2 := by omega
    clear hpl
    go_enter Ybaf.func5, Ybaf.ntmps5
    go_wp2_with fail
    refine (coef_any c1 p1 _ a true _ h11 h12 (by omega) (by omega) (by simp) (hpow.below (three _ _ _ _) hw).2 HA.out).mono ?_
    rintro e w1 ⟨rfl, hb1⟩
    obtain ⟨hc, hf⟩ := bcell hb1
    have hz : w.heap.size + 1 + 1 < w1.heap.size := by have := hb1.size; simp at this; omega
    have hpow1 : Pows w1 := (hpow.below (three _ _ _ _) hw).below hb1 (by simp)
    go_wp2_with fail
    refine (coef_any c2 _ _ b false _ h21 h22 (by omega) (by omega) (by omega) hpow1.2 HB.out).mono ?_
    rintro e w2 ⟨rfl, hb2⟩
    clear hc hf
    have hbW := hb1.trans (hb2.mono hb1.size)
    have hg2 : w2.cell? ⟨0, 0, none⟩ = some (.iface T (.pointer (some a0))) := by rw [hbW.cell (p := ⟨0, 0, none⟩) (by simp), (three w _ _ _).cell (p := ⟨0, 0, none⟩) (by show 0 < w.heap.size; omega)]; exact hg
    have q0 : w2.cell? ⟨w.heap.size + 1 + 1, 0, none⟩ = some (.int .i64 0) := (hbW.cell (p := ⟨w.heap.size + 1 + 1, 0, none⟩) (by simp)).trans (three_cells _ _ _ _ _ _).1
    have q1 : w2.cell? ⟨w.heap.size + 1 + 1, 1, none⟩ = some (.int .i64 0) := (hbW.cell (p := ⟨w.heap.size + 1 + 1, 1, none⟩) (by simp)).trans (three_cells _ _ _ _ _ _).2.1
    have f0 : w2.frozen? ⟨w.heap.size + 1 + 1, 0, none⟩ = false := (hbW.frozen (p := ⟨w.heap.size + 1 + 1, 0, none⟩) (by simp)).trans (three_cells _ _ _ _ _ _).2.2.1
    have f1 : w2.frozen? ⟨w.heap.size + 1 + 1, 1, none⟩ = false := (hbW.frozen (p := ⟨w.heap.size + 1 + 1, 1, none⟩) (by simp)).trans (three_cells _ _ _ _ _ _).2.2.2
    have fin := (three w _ _ _).trans (hbW.mono (by simp; omega))
    clear hb1 hb2 hbW hz hpow hpow1 hg
    go_wp2
    go_region
    all_goals
      go_wp2
      refine bodyPost_ret (v := .tuple #[.agg #[.int .i64 0, .int .i64 0], .iface T (.pointer (some a0))]) (by simp [results, Ybaf.results5, go_sem, q0, q1]) rfl ⟨rfl, ?_⟩
      exact ((fin.setCell (by simp; omega) _).setCell (by simp; omega) _).drew
  · obtain rfl : pl = p1 := by omega
    clear hpl
    go_enter Ybaf.func5, Ybaf.ntmps5
    go_wp2_with fail
    refine (coef_any c1 _ _ a true _ h11 h12 (by omega) (by omega) (by simp) (hpow.below (three _ _ _ _) hw).2 HA.out).mono ?_
    rintro e w1 ⟨rfl, hb1⟩
    obtain ⟨hc, hf⟩ := bcell hb1
    have hz : w.heap.size + 1 + 1 < w1.heap.size := by have := hb1.size; simp at this; omega
    have hpow1 : Pows w1 := (hpow.below (three _ _ _ _) hw).below hb1 (by simp)
    go_wp2_with fail
    refine (coef_any c2 p2 _ b false _ h21 h22 (by omega) (by omega) (by omega) hpow1.2 HB.out).mono ?_
    rintro e w2 ⟨rfl, hb2⟩
    clear hc hf
    have hbW := hb1.trans (hb2.mono hb1.size)
    have hg2 : w2.cell? ⟨0, 0, none⟩ = some (.iface T (.pointer (some a0))) := by rw [hbW.cell (p := ⟨0, 0, none⟩) (by simp), (three w _ _ _).cell (p := ⟨0, 0, none⟩) (by show 0 < w.heap.size; omega)]; exact hg
    have q0 : w2.cell? ⟨w.heap.size + 1 + 1, 0, none⟩ = some (.int .i64 0) := (hbW.cell (p := ⟨w.heap.size + 1 + 1, 0, none⟩) (by simp)).trans (three_cells _ _ _ _ _ _).1
    have q1 : w2.cell? ⟨w.heap.size + 1 + 1, 1, none⟩ = some (.int .i64 0) := (hbW.cell (p := ⟨w.heap.size + 1 + 1, 1, none⟩) (by simp)).trans (three_cells _ _ _ _ _ _).2.1
    have f0 : w2.frozen? ⟨w.heap.size + 1 + 1, 0, none⟩ = false := (hbW.frozen (p := ⟨w.heap.size + 1 + 1, 0, none⟩) (by simp)).trans (three_cells _ _ _ _ _ _).2.2.1
    have f1 : w2.frozen? ⟨w.heap.size + 1 + 1, 1, none⟩ = false := (hbW.frozen (p := ⟨w.heap.size + 1 + 1, 1, none⟩) (by simp)).trans (three_cells _ _ _ _ _ _).2.2.2
    have fin := (three w _ _ _).trans (hbW.mono (by simp; omega))
    clear hb1 hb2 hbW hz hpow hpow1 hg
    go_wp2
    go_region
    all_goals
      go_wp2
      refine bodyPost_ret (v := .tuple #[.agg #[.int .i64 0, .int .i64 0], .iface T (.pointer (some a0))]) (by simp [results, Ybaf.results5, go_sem, q0, q1]) rfl ⟨rfl, ?_⟩
      exact ((fin.setCell (by simp; omega) _).setCell (by simp; omega) _).drew

/-- A decimal as New makes it. -/
def Good (d : Int × Nat) : Prop := -999999999999999999 ≤ d.1 ∧ d.1 ≤ 999999999999999999 ∧ d.2 ≤ 18

/-- Two decimals added. -/
def sumOf (d e : Int × Nat) : Option (Int × Nat) := addF d.1 d.2 e.1 e.2

/-- A decimal as a value. -/
def decV (d : Int × Nat) : Value := .agg #[.int .i64 d.1, .int .i64 (d.2 : Int)]

theorem add_some (d e r : Int × Nat) (w : World) (hd : Good d) (he : Good e) (hpow : Pows w) (h : sumOf d e = some r) :
    Calls Ybaf.prog 5 #[.agg #[.int .i64 d.1, .int .i64 (d.2 : Int)], .agg #[.int .i64 e.1, .int .i64 (e.2 : Int)]] w fun x w' => x = .returned (.tuple #[.agg #[.int .i64 r.1, .int .i64 (r.2 : Int)], .nilIface]) ∧ Below w.heap.size w w' := by
  unfold sumOf addF at h
  cases hA : coefF d.1 d.2 (max d.2 e.2) with
  | mk a oka =>
    cases hB : coefF e.1 e.2 (max d.2 e.2) with
    | mk b okb =>
      rw [hA, hB] at h
      simp only at h
      by_cases h1 : oka = false ∨ okb = false
      · rw [if_pos h1] at h; cases h
      · rw [if_neg h1] at h
        by_cases h2 : 999999999999999999 < (a + b).natAbs
        · rw [if_pos h2] at h; cases h
        · rw [if_neg h2] at h
          obtain rfl := Option.some.inj h
          obtain rfl : oka = true := by cases oka <;> simp_all
          obtain rfl : okb = true := by cases okb <;> simp_all
          exact add_ok d.1 e.1 d.2 e.2 _ a b w hd.1 hd.2.1 he.1 he.2.1 hd.2.2 he.2.2 rfl hpow hA hB (by omega)

theorem add_none (d e : Int × Nat) (T : TypeId) (a0 : Addr) (w : World) (hd : Good d) (he : Good e) (hpow : Pows w) (hg : w.cell? ⟨0, 0, none⟩ = some (.iface T (.pointer (some a0)))) (h : sumOf d e = none) :
    Calls Ybaf.prog 5 #[.agg #[.int .i64 d.1, .int .i64 (d.2 : Int)], .agg #[.int .i64 e.1, .int .i64 (e.2 : Int)]] w fun x w' => x = .returned (.tuple #[.agg #[.int .i64 0, .int .i64 0], .iface T (.pointer (some a0))]) ∧ Below w.heap.size w w' := by
  unfold sumOf addF at h
  cases hA : coefF d.1 d.2 (max d.2 e.2) with
  | mk a oka =>
    cases hB : coefF e.1 e.2 (max d.2 e.2) with
    | mk b okb =>
      rw [hA, hB] at h
      simp only at h
      cases oka with
      | false => exact add_no1 d.1 e.1 d.2 e.2 _ a b T a0 w hd.1 hd.2.1 he.1 he.2.1 hd.2.2 he.2.2 rfl hpow hg okb hA hB
      | true =>
        cases okb with
        | false => exact add_no2 d.1 e.1 d.2 e.2 _ a b T a0 w hd.1 hd.2.1 he.1 he.2.1 hd.2.2 he.2.2 rfl hpow hg hA hB
        | true =>
          by_cases h2 : 999999999999999999 < (a + b).natAbs
          · exact add_big d.1 e.1 d.2 e.2 _ a b T a0 w hd.1 hd.2.1 he.1 he.2.1 hd.2.2 he.2.2 rfl hpow hg hA hB h2
          · rw [if_neg h2, if_neg (by simp)] at h; cases h

set_option maxHeartbeats 400000 in
theorem new_any (c p : Int) (w : World) (h1 : -999999999999999999 ≤ c) (h2 : c ≤ 999999999999999999) (h3 : 0 ≤ p) (h4 : p ≤ 18) :
    Calls Ybaf.prog 9 #[.int .i64 c, .int .i64 p] w fun e w' => e = .returned (.agg #[.int .i64 c, .int .i64 p]) ∧ w' = w.alloc (.cells #[.int .i64 c, .int .i64 p] 26) := by
  have k1 : ¬ c < -999999999999999999 := by omega
  have k2 : ¬ 999999999999999999 < c := by omega
  have k3 : ¬ p < 0 := by omega
  have k4 : ¬ 18 < p := by omega
  go_enter Ybaf.func9, Ybaf.ntmps9
  go_wp2
  refine bodyPost_ret (v := .agg #[.int .i64 c, .int .i64 p]) (by simp [results, Ybaf.results9, go_sem]) rfl ⟨rfl, ?_⟩
  rfl

/-- The coefficient as zzs2733bmk cuts it. -/
def clip (c : Int) : Int := if 999999999999999999 < c then 999999999999999999 else if c < -999999999999999999 then -999999999999999999 else c

/-- What zzs2733bmk makes. -/
def mkD (c p : Int) : Int × Nat := (clip c, (p % 19).toNat)

theorem mkD_good (c p : Int) : Good (mkD c p) := by
  unfold Good mkD clip
  refine ⟨?_, ?_, ?_⟩
  · simp only; split <;> (try split) <;> omega
  · simp only; split <;> (try split) <;> omega
  · simp only; omega

set_option maxHeartbeats 400000 in
theorem mk_any (c p : Int) (w : World) (h1 : 0 ≤ p) (h2 : p ≤ 255) :
    Calls Ybaf.prog 4 #[.int .i64 c, .int .u8 p] w fun e w' => e = .returned (.agg #[.int .i64 (mkD c p).1, .int .i64 ((mkD c p).2 : Int)]) ∧ Below w.heap.size w w' := by
  have hm : ((mkD c p).2 : Int) = p % 19 := by unfold mkD; simp only; omega
  have hm1 : (mkD c p).1 = clip c := rfl
  rw [hm, hm1]
  have b1 : 0 ≤ p % 19 := by omega
  have b2 : p % 19 ≤ 18 := by omega
  unfold clip
  by_cases k1 : 999999999999999999 < c
  · rw [if_pos k1]
    go_enter Ybaf.func4, Ybaf.ntmps4
    go_wp2_with (go_at_call 9; refine (new_any _ _ _ (by omega) (by omega) b1 b2).mono ?_; rintro e w' ⟨rfl, rfl⟩)
    refine bodyPost_ret (v := .agg #[.int .i64 999999999999999999, .int .i64 (p % 19)]) (by simp [results, Ybaf.results4, go_sem]) rfl ⟨rfl, ?_⟩
    exact ((Below.refl _ _).alloc (Nat.le_refl _) _).alloc (by simp) _
  · rw [if_neg k1]
    by_cases k2 : c < -999999999999999999
    · rw [if_pos k2]
      go_enter Ybaf.func4, Ybaf.ntmps4
      go_wp2_with (go_at_call 9; refine (new_any _ _ _ (by omega) (by omega) b1 b2).mono ?_; rintro e w' ⟨rfl, rfl⟩)
      refine bodyPost_ret (v := .agg #[.int .i64 (-999999999999999999), .int .i64 (p % 19)]) (by simp [results, Ybaf.results4, go_sem]) rfl ⟨rfl, ?_⟩
      exact ((Below.refl _ _).alloc (Nat.le_refl _) _).alloc (by simp) _
    · rw [if_neg k2]
      go_enter Ybaf.func4, Ybaf.ntmps4
      go_wp2_with (go_at_call 9; refine (new_any _ _ _ (by omega) (by omega) b1 b2).mono ?_; rintro e w' ⟨rfl, rfl⟩)
      refine bodyPost_ret (v := .agg #[.int .i64 c, .int .i64 (p % 19)]) (by simp [results, Ybaf.results4, go_sem]) rfl ⟨rfl, ?_⟩
      exact ((Below.refl _ _).alloc (Nat.le_refl _) _).alloc (by simp) _
end Go.Proofs.YbulkbdoqFmt
