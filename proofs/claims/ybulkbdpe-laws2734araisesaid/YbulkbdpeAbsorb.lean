/-
  absorb AND raise.
-/
import Derived.Test.YbulkbdpeMiss
namespace Go.Proofs.Ybulkbdpe
open Go.RowKit
set_option linter.unusedVariables false

/-- What absorb has done after i kept versions: it went up from T to X. -/
def Up (V : Nat → Nat) (T i X : Nat) : Prop := T ≤ X ∧ X ≤ 4294967295 ∧ (∀ t, t < i → V t ≤ X) ∧ ∀ x, T < x → x ≤ X → ∃ t, t < i ∧ V t = x

theorem Up.start {V : Nat → Nat} {T : Nat} (hT : T ≤ 4294967295) : Up V T 0 T := ⟨Nat.le_refl _, hT, fun t ht => absurd ht (Nat.not_lt_zero _), fun x h1 h2 => by omega⟩

theorem Up.step {V : Nat → Nat} {T i X : Nat} (h : Up V T i X) (hv : V i ≤ 4294967295) (hle : V i ≤ X + 1) : Up V T (i + 1) (max X (V i)) := by
  obtain ⟨h1, h2, h3, h4⟩ := h
  refine ⟨by omega, by omega, fun t ht => ?_, fun x hx1 hx2 => ?_⟩
  · rcases Nat.lt_or_ge t i with h | h
    · have := h3 t h
      omega
    · obtain rfl : t = i := by omega
      omega
  · by_cases hx : x ≤ X
    · obtain ⟨t, ht, e⟩ := h4 x hx1 hx
      exact ⟨t, by omega, e⟩
    · exact ⟨i, by omega, by omega⟩

set_option maxHeartbeats 400000 in
theorem absorb (vb b n T : Nat) (V : Nat → Nat) (w : World) (h0 : w.cell? ⟨vb, 0, none⟩ = some (.int .u64 T)) (h1 : w.cell? ⟨vb, 1, none⟩ = some (.slice (some ⟨b, 0, none⟩) n n)) (f0 : w.frozen? ⟨vb, 0, none⟩ = false) (f1 : w.frozen? ⟨vb, 1, none⟩ = false)
    (hn : n ≤ 1024) (hne : b ≠ vb) (hr : Rw w b V n) (hV : ∀ t, t < n → V t ≤ 4294967295) (hT : T ≤ 4294967295) :
    Calls Yba.prog 18 #[.pointer (some ⟨vb, 0, none⟩)] w fun e w' => e = .returned (.tuple #[]) ∧ Below vb w w' ∧ ∃ (o X : Nat) (ad : Addr), o ≤ n ∧ Up V T o X ∧ w'.cell? ⟨vb, 0, none⟩ = some (.int .u64 X) ∧ w'.cell? ⟨vb, 1, none⟩ = some (.slice (some ad) (n - o) (n - o)) ∧ (0 < n - o → ad = ⟨b, o * 4, none⟩) ∧ ∀ k, k ≠ vb → w'.heap[k]? = w.heap[k]? := by
  go_enter Yba.func18, Yba.ntmps18
  go_wp2
  go_loopw [2] (fun iv wr => ∃ i X : Nat, i ≤ n ∧ iv = .int .i64 i ∧ Hid (Up V T i X) ∧ X ≤ 4294967295 ∧ wr.heap.size = w.heap.size ∧ Hid (Below vb w wr) ∧ wr.cell? ⟨vb, 0, none⟩ = some (.int .u64 X) ∧ wr.cell? ⟨vb, 1, none⟩ = some (.slice (some ⟨b, 0, none⟩) n n) ∧ wr.frozen? ⟨vb, 0, none⟩ = false ∧ wr.frozen? ⟨vb, 1, none⟩ = false ∧ Hid (∀ k, k ≠ vb → wr.heap[k]? = w.heap[k]?)) (fun iv _ => n - (intOf iv).toNat)
  case atStart => exact ⟨0, T, Nat.zero_le _, rfl, Up.start hT, hT, rfl, (Below.refl _ _ : Below vb w w), h0, h1, f0, f1, (fun _ _ => rfl : ∀ k, k ≠ vb → w.heap[k]? = w.heap[k]?)⟩
  case round =>
    obtain ⟨i, X, hin, rfl, HU, hX, hsz, HB, c0, c1, g0, g1, HK⟩ := hrel
    by_cases hlt : i < n
    · have q0 : wr.cell? ⟨b, i * 4, none⟩ = some (.int .u64 (V i)) := by rw [World.cell?_of_block (w := w) (HK.out b hne)]; exact (hr.2 i hlt).1
      have hVi := hV i hlt
      have k1 : (i : Int) < (n : Int) := by omega
      by_cases hle : V i ≤ X + 1
      · have HU2 : Hid (Up V T (i + 1) (max X (V i))) := HU.out.step hVi hle
        generalize hy : V i = y at *
        generalize hz : max X y = Z at *
        have hZ : Z ≤ 4294967295 := by omega
        have e : (if X < y then (y : Int) else (X : Int)) = (Z : Int) := by rw [← hz]; split <;> omega
        have hl2 : (y : Int) ≤ (X : Int) + 1 := by omega
        clear hy hz
        go_wp2_with fail
        go_quiet (fail)
        go_wp2_with fail
        go_region
        go_wp2_with fail
        refine ⟨⟨i + 1, Z, by omega, by rw [show ((i + 1 : Nat) : Int) = (i : Int) + 1 by omega], HU2, hZ, by simpa using hsz, ((below_drewN HB.out _).setCell (Nat.le_refl _) _ : Below vb w _), World.cell?_setCell_same _ _ _ (u := .int .u64 X) c0, ?_, by simpa using g0, by simpa using g1, (fun k hk => by rw [Below.heap_setCell _ _ _ _ hk]; exact HK.out k hk : ∀ k, k ≠ vb → _)⟩, by simp [intOf]; omega⟩
        rw [World.cell?_setCell_other _ _ _ _ (by simp)]
        exact c1
      · have hl2 : ¬ ((V i : Int) ≤ (X : Int) + 1) := by omega
        go_wp2_with fail
        go_quiet (fail)
        go_wp2
        go_end0
        refine ⟨rfl, (below_drewN HB.out _).setCell (Nat.le_refl _) _, i, X, _, hin, HU.out, ?_, World.cell?_setCell_same _ _ _ (u := .slice (some ⟨b, 0, none⟩) n n) c1, fun _ => rfl, fun k hk => by rw [Below.heap_setCell _ _ _ _ hk]; exact HK.out k hk⟩
        rw [World.cell?_setCell_other _ _ _ _ (by simp)]
        exact c0
    · have k1 : ¬ ((i : Int) < (n : Int)) := by omega
      go_wp2_with fail
      go_quiet (fail)
      go_wp2
      go_end0
      refine ⟨rfl, (below_drewN HB.out _).setCell (Nat.le_refl _) _, i, X, _, hin, HU.out, ?_, World.cell?_setCell_same _ _ _ (u := .slice (some ⟨b, 0, none⟩) n n) c1, fun h => by omega, fun k hk => by rw [Below.heap_setCell _ _ _ _ hk]; exact HK.out k hk⟩
      rw [World.cell?_setCell_other _ _ _ _ (by simp)]
      exact c0

theorem raise (vb b n T r : Nat) (V : Nat → Nat) (w : World) (h0 : w.cell? ⟨vb, 0, none⟩ = some (.int .u64 T)) (h1 : w.cell? ⟨vb, 1, none⟩ = some (.slice (some ⟨b, 0, none⟩) n n)) (f0 : w.frozen? ⟨vb, 0, none⟩ = false) (f1 : w.frozen? ⟨vb, 1, none⟩ = false)
    (hn : n ≤ 1024) (hne : b ≠ vb) (hr : Rw w b V n) (hV : ∀ t, t < n → V t ≤ 4294967295) (hT : T ≤ 65535) (hrr : r ≤ 65535) :
    Calls Yba.prog 9 #[.pointer (some ⟨vb, 0, none⟩), .int .u64 r] w fun e w' => e = .returned (.tuple #[]) ∧ Below vb w w' ∧ ∃ (o X : Nat) (ad : Addr), o ≤ n ∧ Up V (max T r) o X ∧ w'.cell? ⟨vb, 0, none⟩ = some (.int .u64 X) ∧ w'.cell? ⟨vb, 1, none⟩ = some (.slice (some ad) (n - o) (n - o)) ∧ (0 < n - o → ad = ⟨b, o * 4, none⟩) ∧ ∀ k, k ≠ vb → w'.heap[k]? = w.heap[k]? := by
  generalize hz : max T r = Z
  have hZ : Z ≤ 65535 := by omega
  have e : (if T < r then (r : Int) else (T : Int)) = (Z : Int) := by rw [← hz]; split <;> omega
  clear hz
  have HA : Hid (Calls Yba.prog 18 #[.pointer (some ⟨vb, 0, none⟩)] (w.setCell ⟨vb, 0, none⟩ (.int .u64 Z)) fun e w' => e = .returned (.tuple #[]) ∧ Below vb (w.setCell ⟨vb, 0, none⟩ (.int .u64 Z)) w' ∧ ∃ (o X : Nat) (ad : Addr), o ≤ n ∧ Up V Z o X ∧ w'.cell? ⟨vb, 0, none⟩ = some (.int .u64 X) ∧ w'.cell? ⟨vb, 1, none⟩ = some (.slice (some ad) (n - o) (n - o)) ∧ (0 < n - o → ad = ⟨b, o * 4, none⟩) ∧ ∀ k, k ≠ vb → w'.heap[k]? = (w.setCell ⟨vb, 0, none⟩ (.int .u64 Z)).heap[k]?) := by
    refine absorb vb b n Z V _ (World.cell?_setCell_same _ _ _ h0) ?_ (by simpa using f0) (by simpa using f1) hn hne ?_ hV (by omega)
    · rw [World.cell?_setCell_other _ _ _ _ (by simp)]; exact h1
    · refine ⟨by simpa using hr.1, fun t ht => ?_⟩
      rw [World.cell?_setCell_far _ _ _ _ (by show vb ≠ b; omega), World.cell?_setCell_far _ _ _ _ (by show vb ≠ b; omega), World.cell?_setCell_far _ _ _ _ (by show vb ≠ b; omega), World.cell?_setCell_far _ _ _ _ (by show vb ≠ b; omega)]
      exact hr.2 t ht
  clear hr hV
  go_enter Yba.func9, Yba.ntmps9
  go_wp2_with (go_at_call 18; refine HA.out.mono ?_; rintro e w' ⟨rfl, hbel, hex⟩)
  go_end0
  obtain ⟨o, X, ad, k1, k2, k3, k4, k5, k6⟩ := hex
  exact ⟨rfl, ((Below.refl vb w).setCell (Nat.le_refl _) _).trans hbel, o, X, ad, k1, k2, k3, k4, k5, fun k hk => by rw [k6 k hk, Below.heap_setCell _ _ _ _ hk]⟩
end Go.Proofs.Ybulkbdpe
