/-
  missing's CLOSURE; sort.Search; missing.
-/
import Derived.Test.YbulkbdpeSearch
namespace Go.Proofs.Ybulkbdpe
open Go.RowKit
set_option linter.unusedVariables false

set_option maxHeartbeats 400000 in
theorem clos (a3 a4 a8 vb b o i m c k f y : Nat) (w : World) (h3 : w.cell? ⟨a3, 0, none⟩ = some (.pointer (some ⟨vb, 0, none⟩))) (h8 : w.cell? ⟨a8, 0, none⟩ = some (.int .i64 i)) (h4 : w.cell? ⟨a4, 0, none⟩ = some (.int .u64 f))
    (hv : w.cell? ⟨vb, 1, none⟩ = some (.slice (some ⟨b, o * 4, none⟩) m c)) (hy : w.cell? ⟨b, o * 4 + (i + k) * 4, none⟩ = some (.int .u64 y)) (hm : m ≤ 1024) (hk : i + k < m) (hf : f ≤ 4294967296) :
    Calls Yba.prog 14 #[.int .i64 k, .pointer (some ⟨a3, 0, none⟩), .pointer (some ⟨a8, 0, none⟩), .pointer (some ⟨a4, 0, none⟩)] w fun e w' => e = .returned (.bool (decide (f + 1 + k < y))) ∧ Below w.heap.size w w' := by
  have k1 : (0 : Int) ≤ (i : Int) + (k : Int) := by omega
  have k2 : (i : Int) + (k : Int) < (m : Int) := by omega
  go_enter Yba.func14, Yba.ntmps14
  go_wp2
  go_quiet (fail)
  go_wp2
  go_ret
  exact ⟨by rw [show decide (f + 1 + k < y) = decide ((f : Int) + 1 + (k : Int) < (y : Int)) from decide_eq_decide.2 (by omega)]; rfl, below_drewN (Below.refl _ _) _⟩

set_option maxHeartbeats 400000 in
theorem search (n : Nat) (p : Nat → Bool) (c1 c2 c3 : Value) (w : World) (hn : n ≤ 1024) (hf : ∀ wr k, Below w.heap.size w wr → k < n → Calls Yba.prog 14 #[.int .i64 (k : Nat), c1, c2, c3] wr fun e w' => e = .returned (.bool (p k)) ∧ Below wr.heap.size wr w')
    (hmono : ∀ a b, a ≤ b → b < n → p a = true → p b = true) :
    Calls Yba.prog 13 #[.int .i64 n, .func (.func 14) #[] #[c1, c2, c3]] w fun e w' => ∃ i : Nat, e = .returned (.int .i64 i) ∧ i ≤ n ∧ (∀ t, t < i → p t = false) ∧ (i < n → p i = true) ∧ Below w.heap.size w w' := by
  have HF : Hid _ := hf
  have M : Hid _ := hmono
  clear hf hmono
  go_enter Yba.func13, Yba.ntmps13
  go_wp2
  go_loopg [5, 6] n (fun kx s5 s6 wr => ∃ lo hi : Nat, s5 = .int .i64 lo ∧ s6 = .int .i64 hi ∧ lo ≤ hi ∧ hi ≤ n ∧ hi - lo ≤ kx ∧ Hid (Below w.heap.size w wr) ∧ Hid ((∀ t, t < lo → p t = false) ∧ (∀ t, hi ≤ t → t < n → p t = true)))
  case atStart => exact ⟨0, n, rfl, rfl, Nat.zero_le _, Nat.le_refl _, by omega, (Below.refl _ _ : Below w.heap.size w w), (⟨fun t ht => absurd ht (Nat.not_lt_zero _), fun t h1 h2 => by omega⟩ : (∀ t, t < 0 → p t = false) ∧ (∀ t, n ≤ t → t < n → p t = true))⟩
  case round =>
    obtain ⟨lo, hi, rfl, rfl, hlh, hin, hg, S1, I⟩ := hrel
    by_cases hlt : lo < hi
    · have hc := HF.out _ ((lo + hi) / 2) S1.out (by omega)
      rw [show (((lo + hi) / 2 : Nat) : Int) = ((lo : Int) + (hi : Int)) / 2 by omega] at hc
      cases hp : p ((lo + hi) / 2) <;> rw [hp] at hc
      · have HP : Hid (p ((lo + hi) / 2) = false) := hp
        clear hp
        go_wp2_with (go_at_call 14; refine hc.mono ?_; rintro e w' ⟨rfl, hbel⟩)
        go_roundg (hi - ((lo + hi) / 2 + 1))
        case measure => omega
        case rel =>
          have I2 : Hid ((∀ t, t < (lo + hi) / 2 + 1 → p t = false) ∧ (∀ t, hi ≤ t → t < n → p t = true)) := ⟨fun t ht => Bool.eq_false_iff.2 fun hq => by
            have := M.out t ((lo + hi) / 2) (by omega) (by omega) hq
            rw [HP.out] at this
            exact Bool.noConfusion this, I.out.2⟩
          exact ⟨(lo + hi) / 2 + 1, hi, by rw [show ((lo : Int) + (hi : Int)) / 2 + 1 = (((lo + hi) / 2 + 1 : Nat) : Int) by omega], rfl, by omega, hin, Nat.le_refl _, S1.out.trans (hbel.mono S1.out.size), I2⟩
      · have HP : Hid (p ((lo + hi) / 2) = true) := hp
        clear hp
        go_wp2_with (go_at_call 14; refine hc.mono ?_; rintro e w' ⟨rfl, hbel⟩)
        go_roundg ((lo + hi) / 2 - lo)
        case measure => omega
        case rel =>
          have I2 : Hid ((∀ t, t < lo → p t = false) ∧ (∀ t, (lo + hi) / 2 ≤ t → t < n → p t = true)) := ⟨I.out.1, fun t ht htn => M.out ((lo + hi) / 2) t ht htn HP.out⟩
          exact ⟨lo, (lo + hi) / 2, rfl, by rw [show ((lo : Int) + (hi : Int)) / 2 = (((lo + hi) / 2 : Nat) : Int) by omega], by omega, by omega, Nat.le_refl _, S1.out.trans (hbel.mono S1.out.size), I2⟩
    · obtain rfl : hi = lo := by omega
      go_wp2
      go_ret
      exact ⟨hi, rfl, hin, I.out.1, fun h => I.out.2 hi (Nat.le_refl _) h, S1.out⟩

/-- missing's own three boxes at A: the receiver, 'from', the result's time. -/
def Mis (w wx : World) (A vb f : Nat) : Prop :=
  Below w.heap.size w wx ∧ w.heap.size ≤ A ∧ A + 1 + 1 < wx.heap.size ∧ wx.cell? ⟨A, 0, none⟩ = some (.pointer (some ⟨vb, 0, none⟩)) ∧ wx.cell? ⟨A + 1, 0, none⟩ = some (.int .u64 f) ∧
    wx.cell? ⟨A + 1 + 1, 0, none⟩ = some (.int .u64 0) ∧ wx.cell? ⟨A + 1 + 1, 1, none⟩ = some (.int .i64 0) ∧ wx.cell? ⟨A + 1 + 1, 2, none⟩ = some (.pointer none) ∧ ∀ j, wx.frozen? ⟨A + 1 + 1, j, none⟩ = false

theorem Mis.below {w wx wy : World} {A vb f : Nat} (h : Mis w wx A vb f) (hb : Below wx.heap.size wx wy) : Mis w wy A vb f := by
  obtain ⟨h1, h2, h3, h4, h5, h6, h7, h8, h9⟩ := h
  exact ⟨h1.trans (hb.mono h1.size), h2, Nat.lt_of_lt_of_le h3 hb.size, (hb.cell (p := ⟨A, 0, none⟩) (by show A < _; omega)).trans h4, (hb.cell (p := ⟨A + 1, 0, none⟩) (by show A + 1 < _; omega)).trans h5,
    (hb.cell (p := ⟨A + 1 + 1, 0, none⟩) h3).trans h6, (hb.cell (p := ⟨A + 1 + 1, 1, none⟩) h3).trans h7, (hb.cell (p := ⟨A + 1 + 1, 2, none⟩) h3).trans h8, fun j => (hb.frozen (p := ⟨A + 1 + 1, j, none⟩) h3).trans (h9 j)⟩

theorem Mis.put {w wx : World} {A vb f : Nat} (h : Mis w wx A vb f) (g : Nat) : Mis w (wx.setCell ⟨A + 1, 0, none⟩ (.int .u64 g)) A vb g := by
  obtain ⟨h1, h2, h3, h4, h5, h6, h7, h8, h9⟩ := h
  refine ⟨h1.setCell (by show w.heap.size ≤ A + 1; omega) _, h2, by simpa using h3, ?_, World.cell?_setCell_same _ _ _ h5, ?_, ?_, ?_, fun j => ?_⟩
  · rw [World.cell?_setCell_far _ _ _ _ (by show A + 1 ≠ A; omega)]; exact h4
  · rw [World.cell?_setCell_far _ _ _ _ (by show A + 1 ≠ A + 1 + 1; omega)]; exact h6
  · rw [World.cell?_setCell_far _ _ _ _ (by show A + 1 ≠ A + 1 + 1; omega)]; exact h7
  · rw [World.cell?_setCell_far _ _ _ _ (by show A + 1 ≠ A + 1 + 1; omega)]; exact h8
  · simpa using h9 j

theorem Mis.start (w : World) (vb f : Nat) :
    Mis w (((w.alloc (.cells #[.pointer (some ⟨vb, 0, none⟩)] 25)).alloc (.cells #[.int .u64 f] 27)).alloc (.cells #[.int .u64 0, .int .i64 0, .pointer none] 30)) w.heap.size vb f ∧
      (((w.alloc (.cells #[.pointer (some ⟨vb, 0, none⟩)] 25)).alloc (.cells #[.int .u64 f] 27)).alloc (.cells #[.int .u64 0, .int .i64 0, .pointer none] 30)).frozen? ⟨w.heap.size + 1, 0, none⟩ = false := by
  refine ⟨⟨(((Below.refl _ _).alloc (Nat.le_refl _) _).alloc (by simp) _).alloc (by simp; omega) _, Nat.le_refl _, by simp, ?_, ?_, ?_, ?_, ?_, fun j => ?_⟩, ?_⟩
  · rw [World.cell?_alloc_past _ _ _ (by simp; omega), World.cell?_alloc_past _ _ _ (by simp), World.cell?_alloc_at _ _ _ _ rfl]; rfl
  · rw [World.cell?_alloc_past _ _ _ (by simp), World.cell?_alloc_at _ _ _ _ (by simp)]; rfl
  · rw [World.cell?_alloc_at _ _ _ _ (by simp)]; rfl
  · rw [World.cell?_alloc_at _ _ _ _ (by simp)]; rfl
  · rw [World.cell?_alloc_at _ _ _ _ (by simp)]; rfl
  · rw [World.frozen?_alloc_at _ _ _ _ (by simp)]
  · rw [World.frozen?_alloc_past _ _ _ (by simp), World.frozen?_alloc_at _ _ _ _ (by simp)]

/-- What missing answers, told by the first version that lacks, and by the first kept one above it. -/
def Told (V : Nat → Nat) (o n T fr : Nat) (first J : Nat) : Prop :=
  max fr T < first ∧ (∀ x, max fr T < x → x < first → ∃ t, t < n ∧ V t = x) ∧ o ≤ J ∧ J ≤ n ∧ (∀ t, o ≤ t → t < J → V t < first) ∧ (J < n → first < V J)

end Go.Proofs.Ybulkbdpe
