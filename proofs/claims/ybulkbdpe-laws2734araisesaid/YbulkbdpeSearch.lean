/-
  slices.BinarySearchFunc BY byVersion; sort.Search BY missing's CLOSURE.
-/
import Derived.Test.YbulkbdpeLeaf
namespace Go.Proofs.Ybulkbdpe
open Go.RowKit
set_option linter.unusedVariables false

/-- The kept versions' row: element t holds version V t and the time t + 1. -/
def Rw (w : World) (b : Nat) (V : Nat → Nat) (n : Nat) : Prop :=
  b < w.heap.size ∧ ∀ t, t < n → w.cell? ⟨b, t * 4, none⟩ = some (.int .u64 (V t)) ∧ w.cell? ⟨b, t * 4 + 1, none⟩ = some (.int .u64 ((t + 1 : Nat) : Int)) ∧ w.cell? ⟨b, t * 4 + 2, none⟩ = some (.int .i64 0) ∧ w.cell? ⟨b, t * 4 + 3, none⟩ = some (.pointer none)

theorem Rw.below {w w' : World} {B b n : Nat} {V : Nat → Nat} (h : Rw w b V n) (hb : Below B w w') (hB : b < B) : Rw w' b V n :=
  ⟨Nat.lt_of_lt_of_le h.1 hb.size, fun t ht => by
    rw [hb.cell (p := ⟨b, t * 4, none⟩) hB, hb.cell (p := ⟨b, t * 4 + 1, none⟩) hB, hb.cell (p := ⟨b, t * 4 + 2, none⟩) hB, hb.cell (p := ⟨b, t * 4 + 3, none⟩) hB]
    exact h.2 t ht⟩

theorem Rw.at {w : World} {b n : Nat} {V : Nat → Nat} (h : Rw w b V n) (o t : Nat) (ht : o + t < n) : w.cell? ⟨b, o * 4 + t * 4, none⟩ = some (.int .u64 (V (o + t))) ∧ w.cell? ⟨b, o * 4 + t * 4 + 1, none⟩ = some (.int .u64 ((o + t + 1 : Nat) : Int)) ∧ w.cell? ⟨b, o * 4 + t * 4 + 2, none⟩ = some (.int .i64 0) ∧ w.cell? ⟨b, o * 4 + t * 4 + 3, none⟩ = some (.pointer none) := by
  have := h.2 (o + t) ht
  rw [show (o + t) * 4 = o * 4 + t * 4 by omega] at this
  exact this

theorem byV_lt (x y : Nat) (wl ex : Int) (w : World) (h : x < y) : Calls Yba.prog 12 #[.agg #[.int .u64 x, .int .u64 wl, .int .i64 ex, .pointer none], .int .u64 y] w fun e w' => e = .returned (.int .i64 (-1)) ∧ Below w.heap.size w w' := by
  have := byVersion x wl ex y w
  rwa [show cmpI (x : Int) (y : Int) = -1 by unfold cmpI; rw [if_pos (by omega)]] at this

theorem byV_ge (x y : Nat) (wl ex : Int) (w : World) (h : y ≤ x) : Calls Yba.prog 12 #[.agg #[.int .u64 x, .int .u64 wl, .int .i64 ex, .pointer none], .int .u64 y] w fun e w' => ∃ z : Int, e = .returned (.int .i64 z) ∧ 0 ≤ z ∧ Below w.heap.size w w' := by
  refine (byVersion x wl ex y w).mono ?_
  rintro e w' ⟨rfl, hb⟩
  refine ⟨_, rfl, ?_, hb⟩
  unfold cmpI
  rw [if_neg (by omega)]
  split <;> omega

theorem bsearch0 (ad : Addr) (c x : Nat) (w : World) :
    Calls Yba.prog 11 #[.slice (some ad) 0 c, .int .u64 x, .func (.func 12) #[] #[]] w fun e w' => e = .returned (.tuple #[.int .i64 0, .bool false]) ∧ w' = w := by
  go_enter Yba.func11, Yba.ntmps11
  go_wp2
  go_loopg [9, 10] 0 (fun kx s9 s10 wr => s9 = .int .i64 0 ∧ s10 = .int .i64 0 ∧ wr = w)
  case atStart => exact ⟨rfl, rfl, rfl⟩
  case round =>
    obtain ⟨rfl, rfl, rfl⟩ := hrel
    go_wp2
    go_ret2
    exact ⟨rfl, rfl⟩

set_option maxHeartbeats 400000 in
theorem bsearch (b o m c n x : Nat) (V : Nat → Nat) (w : World) (hm0 : 0 < m) (hm : m ≤ 1024) (ho : o + m = n) (hr : Rw w b V n) (hmono : ∀ s t, s < t → t < n → V s < V t) :
    Calls Yba.prog 11 #[.slice (some ⟨b, o * 4, none⟩) m c, .int .u64 x, .func (.func 12) #[] #[]] w fun e w' => ∃ (i : Nat) (f : Bool), e = .returned (.tuple #[.int .i64 i, .bool f]) ∧ i ≤ m ∧ (∀ t, t < i → V (o + t) < x) ∧ (∀ t, i ≤ t → t < m → x ≤ V (o + t)) ∧ Below w.heap.size w w' := by
  have HR : Hid (Rw w b V n) := hr
  have HM : Hid (∀ s t, s < t → t < n → V s < V t) := hmono
  have hbs := hr.1
  clear hr hmono
  go_enter Yba.func11, Yba.ntmps11
  go_wp2
  go_loopg [9, 10] m (fun kx s9 s10 wr => ∃ lo hi : Nat, s9 = .int .i64 lo ∧ s10 = .int .i64 hi ∧ lo ≤ hi ∧ hi ≤ m ∧ hi - lo ≤ kx ∧ Hid (Below w.heap.size w wr) ∧ Hid ((∀ t, t < lo → V (o + t) < x) ∧ (∀ t, hi ≤ t → t < m → x ≤ V (o + t))))
  case atStart => exact ⟨0, m, rfl, rfl, Nat.zero_le _, Nat.le_refl _, by omega, (Below.refl _ _ : Below w.heap.size w w), (⟨fun t ht => absurd ht (Nat.not_lt_zero _), fun t h1 h2 => by omega⟩ : (∀ t, t < 0 → V (o + t) < x) ∧ (∀ t, m ≤ t → t < m → x ≤ V (o + t)))⟩
  case round =>
    obtain ⟨lo, hi, rfl, rfl, hlh, hin, hg, S1, I⟩ := hrel
    have RW : Hid (Rw _ b V n) := HR.out.below S1.out hbs
    by_cases hlt : lo < hi
    · obtain ⟨q0, q1, q2, q3⟩ := RW.out.at o ((lo + hi) / 2) (by omega)
      generalize hy : V (o + (lo + hi) / 2) = y at q0
      generalize ((o + (lo + hi) / 2 + 1 : Nat) : Int) = wl at q1
      have Y : Hid (V (o + (lo + hi) / 2) = y) := hy
      clear hy
      by_cases hyx : y < x
      · have hc := fun w => byV_lt y x wl 0 w hyx
        go_wp2_with (go_at_call 12; refine (hc _).mono ?_; rintro e w' ⟨rfl, hbel⟩)
        go_roundg (hi - ((lo + hi) / 2 + 1))
        case measure => omega
        case rel =>
          have I2 : Hid ((∀ t, t < (lo + hi) / 2 + 1 → V (o + t) < x) ∧ (∀ t, hi ≤ t → t < m → x ≤ V (o + t))) := ⟨fun t ht => by
            rcases Nat.lt_or_ge t ((lo + hi) / 2) with h | h
            · have := HM.out (o + t) (o + (lo + hi) / 2) (by omega) (by omega)
              rw [Y.out] at this
              omega
            · obtain rfl : t = (lo + hi) / 2 := by omega
              rw [Y.out]; exact hyx, I.out.2⟩
          exact ⟨(lo + hi) / 2 + 1, hi, by rw [show ((lo : Int) + (hi : Int)) / 2 + 1 = (((lo + hi) / 2 + 1 : Nat) : Int) by omega], rfl, by omega, hin, Nat.le_refl _, S1.out.trans (hbel.mono S1.out.size), I2⟩
      · have hc := byV_ge y x wl 0
        go_wp2_with (go_at_call 12; refine (hc _ (by omega)).mono ?_; rintro e w' ⟨z, rfl, hz, hbel⟩)
        go_roundg ((lo + hi) / 2 - lo)
        case measure => omega
        case rel =>
          have I2 : Hid ((∀ t, t < lo → V (o + t) < x) ∧ (∀ t, (lo + hi) / 2 ≤ t → t < m → x ≤ V (o + t))) := ⟨I.out.1, fun t ht htn => by
            rcases Nat.lt_or_ge ((lo + hi) / 2) t with h | h
            · have := HM.out (o + (lo + hi) / 2) (o + t) (by omega) (by omega)
              rw [Y.out] at this
              omega
            · obtain rfl : t = (lo + hi) / 2 := by omega
              rw [Y.out]; omega⟩
          exact ⟨lo, (lo + hi) / 2, rfl, by rw [show ((lo : Int) + (hi : Int)) / 2 = (((lo + hi) / 2 : Nat) : Int) by omega], by omega, by omega, Nat.le_refl _, S1.out.trans (hbel.mono S1.out.size), I2⟩
    · obtain rfl : hi = lo := by omega
      by_cases hn : hi < m
      · obtain ⟨q0, q1, q2, q3⟩ := RW.out.at o hi (by omega)
        generalize hy : V (o + hi) = y at q0
        generalize ((o + hi + 1 : Nat) : Int) = wl at q1
        clear hy
        have hc := byVersion y wl 0 x
        go_wp2_with (go_at_call 12; refine (hc _).mono ?_; rintro e w' ⟨rfl, hbel⟩)
        go_ret2
        exact ⟨hi, _, rfl, hin, I.out.1, I.out.2, S1.out.trans (hbel.mono S1.out.size)⟩
      · go_wp2
        go_ret2
        exact ⟨hi, _, rfl, hin, I.out.1, I.out.2, S1.out⟩
end Go.Proofs.Ybulkbdpe
