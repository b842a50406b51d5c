/-
  zzs2734abuild: THE KEPT VERSIONS ARE LAID.
-/
import Derived.Test.YbulkbdpeMiss
import Derived.OwnWalk
import Derived.Deep.Slices
import Derived.Deep.SlicePairs
namespace Go.Proofs.Ybulkbdpe
open Go.RowKit
set_option linter.unusedVariables false

/-- The versions that build lays: the first one s + G 0, each next one 1 + G k further. -/
def ver (s : Nat) (G : Nat → Nat) : Nat → Nat
  | 0 => s + G 0
  | k + 1 => ver s G k + 1 + G (k + 1)
/-- The running number ahead of round k. -/
def cur (s : Nat) (G : Nat → Nat) : Nat → Nat
  | 0 => s
  | k + 1 => ver s G k

theorem ver_mono (s : Nat) (G : Nat → Nat) (a : Nat) : ∀ d, ver s G a < ver s G (a + d + 1)
  | 0 => by show _ < ver s G a + 1 + G (a + 1); omega
  | d + 1 => by
    have := ver_mono s G a d
    show _ < ver s G (a + d + 1) + 1 + G (a + d + 1 + 1)
    omega
theorem ver_lt {s : Nat} {G : Nat → Nat} {a b : Nat} (h : a < b) : ver s G a < ver s G b := by
  have := ver_mono s G a (b - a - 1)
  rwa [show a + (b - a - 1) + 1 = b by omega] at this
theorem ver_le {s : Nat} {G : Nat → Nat} {n : Nat} (hG : ∀ k, k < n → G k ≤ 255) : ∀ k, k < n → ver s G k ≤ s + 256 * (k + 1)
  | 0, h => by have := hG 0 h; show s + G 0 ≤ _; omega
  | k + 1, h => by
    have h1 := ver_le (s := s) hG k (by omega)
    have h2 := hG (k + 1) h
    show ver s G k + 1 + G (k + 1) ≤ _
    omega
theorem cur_le {s : Nat} {G : Nat → Nat} {n : Nat} (hG : ∀ k, k < n → G k ≤ 255) : ∀ k, k ≤ n → cur s G k ≤ s + 256 * k
  | 0, _ => by show s ≤ _; omega
  | k + 1, h => ver_le hG k (by omega)

/-- The first k elements, cell by cell. -/
def elems (V : Nat → Nat) : Nat → List Value
  | 0 => []
  | k + 1 => elems V k ++ [.int .u64 (V k), .int .u64 ((k + 1 : Nat) : Int), .int .i64 0, .pointer none]
theorem elems_length (V : Nat → Nat) : ∀ k, (elems V k).length = k * 4
  | 0 => rfl
  | k + 1 => by simp [elems, elems_length V k]; omega
theorem elems_at (V : Nat → Nat) (t j : Nat) (hj : j < 4) : ∀ k, t < k → (elems V k)[t * 4 + j]? = [Value.int .u64 (V t), .int .u64 ((t + 1 : Nat) : Int), .int .i64 0, .pointer none][j]?
  | 0, h => absurd h (Nat.not_lt_zero _)
  | k + 1, h => by
    show (elems V k ++ _)[t * 4 + j]? = _
    by_cases ht : t < k
    · rw [List.getElem?_append_left (by rw [elems_length]; omega)]
      exact elems_at V t j hj k ht
    · obtain rfl : t = k := by omega
      rw [List.getElem?_append_right (by rw [elems_length]; omega), elems_length, show t * 4 + j - t * 4 = j by omega]

theorem rw_of_owns {w : World} {base b c n : Nat} {V : Nat → Nat} (h : w.ownsRow base 44 4 (.slice (some ⟨b, 0, none⟩) n c) n (elems V n)) : Rw w b V n := by
  obtain ⟨_, ⟨h, _⟩ | ⟨g, cap, cu, hv, _, hg, _, _, _, hc⟩⟩ := h
  · simp at h
  · simp at hv
    obtain ⟨rfl, rfl⟩ := hv
    have hcell : ∀ i, i < n * 4 → w.cell? ⟨b, i, none⟩ = (elems V n)[i]? := fun i hi => by
      rw [← hc, List.getElem?_take, if_pos hi]
      simp [World.cell?, hg]
    refine ⟨(Array.getElem?_eq_some_iff.1 hg).1, fun t ht => ⟨?_, ?_, ?_, ?_⟩⟩
    · have := elems_at V t 0 (by omega) n ht
      rw [hcell _ (by omega)]; simpa using this
    · rw [hcell _ (by omega), elems_at V t 1 (by omega) n ht]; rfl
    · rw [hcell _ (by omega), elems_at V t 2 (by omega) n ht]; rfl
    · rw [hcell _ (by omega), elems_at V t 3 (by omega) n ht]; rfl

theorem owns_below {w w' : World} {base e size n : Nat} {v : Value} {xs : List Value} (h : w.ownsRow base e size v n xs) (hb : Below w.heap.size w w') : w'.ownsRow base e size v n xs := by
  obtain ⟨h1, h2 | ⟨g, cap, cu, hv, h3, hg, h4⟩⟩ := h
  · exact ⟨h1, .inl h2⟩
  · exact ⟨h1, .inr ⟨g, cap, cu, hv, h3, by rw [hb.block g (Array.getElem?_eq_some_iff.1 hg).1]; exact hg, h4⟩⟩

theorem info44 : (Yba.prog.info? 44).map (fun i => (i.zero, i.size, i.bytes)) = some (some (.agg #[.int .u64 0, .int .u64 0, .int .i64 0, .pointer none]), 4, 32) := by kernel_rfl

def IsGaps (w : World) (x : Option Addr) (len : Nat) (G : Nat → Nat) : Prop :=
  (∀ k, k < len → G k ≤ 255) ∧ (0 < len → ∃ b off, x = some ⟨b, off, none⟩ ∧ b < w.heap.size ∧ ∀ t, t < len → w.cell? ⟨b, off + t, none⟩ = some (.int .u8 (G t)))

/-- What build leaves: the object at vb, its row at b. -/
def Built (w w' : World) (vb b th n : Nat) (V : Nat → Nat) : Prop :=
  Below w.heap.size w w' ∧ w.heap.size ≤ vb ∧ vb < w'.heap.size ∧ w.heap.size ≤ b ∧ b ≠ vb ∧ w'.cell? ⟨vb, 0, none⟩ = some (.int .u64 th) ∧ w'.cell? ⟨vb, 1, none⟩ = some (.slice (some ⟨b, 0, none⟩) n n) ∧
    w'.frozen? ⟨vb, 0, none⟩ = false ∧ w'.frozen? ⟨vb, 1, none⟩ = false ∧ Rw w' b V n

theorem add' (k : Nat) (hk : k < 1024) (w : World) : Calls Yba.prog 10 #[.agg #[.int .u64 0, .int .i64 0, .pointer none], .int .i64 ((k : Int) + 1)] w fun e w' => e = .returned (.agg #[.int .u64 ((k : Int) + 1), .int .i64 0, .pointer none]) ∧ Below w.heap.size w w' := by
  have := add (k + 1) w (by omega)
  unfold tm at this
  rwa [show ((k + 1 : Nat) : Int) = (k : Int) + 1 by omega] at this

theorem news_four (w : World) (a b c d : Value) (t : TypeId) : ∀ j u, [a, b, c, d][j]? = some u → (w.alloc (.cells #[a, b, c, d] t)).cell? ((⟨w.heap.size, 0, none⟩ : Addr).add j) = some u := by
  intro j u hu
  rw [show (⟨w.heap.size, 0, none⟩ : Addr).add j = ⟨w.heap.size, j, none⟩ by unfold Addr.add; split <;> simp_all, World.cell?_alloc_at _ _ _ _ rfl]
  simpa using hu

set_option maxHeartbeats 400000 in
theorem build (th s : Nat) (x : Option Addr) (len cap : Nat) (G : Nat → Nat) (w : World) (hg : IsGaps w x len G) (hl : len ≤ 1024) (hth : th ≤ 65535) (hs : s ≤ 65535) :
    Calls Yba.prog 5 #[.int .u16 th, .int .u16 s, .slice x len cap] w fun e w' => ∃ vb b, e = .returned (.pointer (some ⟨vb, 0, none⟩)) ∧ Built w w' vb b th len (ver s G) := by
  obtain ⟨i0, hi, hz0, hz1, hz2⟩ := info_parts info44
  have HG : Hid (IsGaps w x len G) := hg
  clear hg
  go_enter Yba.func5, Yba.ntmps5
  go_wp2_with (at_make; refine wpList_make_own _ rfl _ _ 34 rfl w.heap.size 44 i0 (.agg #[.int .u64 0, .int .u64 0, .int .i64 0, .pointer none]) 4 Yba.underlying34 hi hz0 hz1 .i64 .i64 _ len rfl rfl (by first | rfl | omega) (by rw [hz2]; omega) (by unfold maxLen; omega) (Nat.le_refl _) ?_; intro w0 hown0 hgrow0)
  have HO0 : Hid (w0.ownsRow w.heap.size 44 4 (.slice (some ⟨w.heap.size, 0, none⟩) 0 len) 0 []) := hown0
  have HB0 : Hid (Below w.heap.size w w0) := (Below.refl _ _).grown hgrow0 (Nat.le_refl _) (fun k h => by cases h)
  clear hown0 hgrow0
  go_loopw [7, 8, 9] (fun a7 a8 a9 wr => ∃ k : Nat, k ≤ len ∧ a7 = .slice (some ⟨w.heap.size, 0, none⟩) k len ∧ a8 = .int .u64 (cur s G k) ∧ a9 = .int .i64 k ∧ Hid (Below w.heap.size w wr) ∧ Hid (wr.ownsRow w.heap.size 44 4 (.slice (some ⟨w.heap.size, 0, none⟩) k len) k (elems (ver s G) k))) (fun _ _ a9 _ => len - (intOf a9).toNat)
  case atStart => exact ⟨0, Nat.zero_le _, rfl, rfl, rfl, HB0, HO0⟩
  case round =>
    obtain ⟨k, hk, rfl, rfl, rfl, HB, HO⟩ := hrel
    by_cases hlt : k < len
    · obtain ⟨gb, off, rfl, hgb, hgc⟩ := HG.out.2 (by omega)
      have q0 : wr.cell? ⟨gb, off + k, none⟩ = some (.int .u8 (G k)) := (HB.out.cell (p := ⟨gb, off + k, none⟩) hgb).trans (hgc k hlt)
      have hG := HG.out.1 k hlt
      have hc := cur_le (s := s) HG.out.1 k (by omega)
      have hsz := HB.out.size
      have HAdd : Hid (∀ w, Calls Yba.prog 10 #[.agg #[.int .u64 0, .int .i64 0, .pointer none], .int .i64 ((k : Int) + 1)] w fun e w' => e = .returned (.agg #[.int .u64 ((k : Int) + 1), .int .i64 0, .pointer none]) ∧ Below w.heap.size w w') := add' k (by omega)
      have hbb : w.heap.size < wr.heap.size := (rw_of_owns HO.out).1
      clear hgc
      by_cases hk0 : k = 0
      · have HV : Hid (ver s G k = cur s G k + G k) := by subst hk0; rfl
        have k3 : ¬ ((0 : Int) < (k : Int)) := by omega
        clear hk0
        generalize hg : G k = g at *
        generalize cur s G k = c at *
        clear hg
        go_wp2_with (first
          | (go_at_call 10; refine (HAdd.out _).mono ?_; rintro e w3 ⟨rfl, hb3⟩; have HB3 : Hid (Below wr.heap.size wr w3) := hb3; clear hb3)
          | (at_builtin; refine wpList_append_fits _ rfl (.tmp 38) (.tmp 45) 34 rfl w.heap.size 44 i0 4 Yba.underlying34 hi hz1 w.heap.size k len _ rfl ((owns_below HO.out HB3.out).alloc _) ⟨w3.heap.size, 0, none⟩ 1 1 [.int .u64 ((c : Int) + (g : Int)), .int .u64 ((k : Int) + 1), .int .i64 0, .pointer none] rfl rfl (news_four _ _ _ _ _ _) (by intro u hu; simp at hu; rcases hu with rfl | rfl | rfl | rfl <;> rfl) (by omega) ?_; intro w4 hown4 hgrow4))
        go_roundw
        case rel =>
          have HB4 : Hid (Below w.heap.size w w4) := ((HB.out.trans (HB3.out.mono hsz)).alloc (Nat.le_trans hsz HB3.out.size) _).grown hgrow4 (by simp; have := HB3.out.size; omega) (fun q h => by obtain rfl := Option.some.inj h; exact Nat.le_refl _)
          refine ⟨k + 1, by omega, rfl, ?_, by rw [show ((k + 1 : Nat) : Int) = (k : Int) + 1 by omega], HB4, ?_⟩
          · rw [show cur s G (k + 1) = ver s G k from rfl, HV.out]
            congr 1
          · have e : elems (ver s G) (k + 1) = elems (ver s G) k ++ [.int .u64 ((c : Int) + (g : Int)), .int .u64 ((k : Int) + 1), .int .i64 0, .pointer none] := by
              show elems (ver s G) k ++ _ = _
              rw [HV.out, show ((k + 1 : Nat) : Int) = (k : Int) + 1 by omega]
              first | rfl | (congr 3; omega)
            rw [e]
            exact hown4
        case measure => simp [intOf]; omega
      · have HV : Hid (ver s G k = cur s G k + (1 + G k)) := by
          obtain ⟨q, rfl⟩ : ∃ q, k = q + 1 := ⟨k - 1, by omega⟩
          show ver s G q + 1 + G (q + 1) = ver s G q + (1 + G (q + 1))
          omega
        have k3 : (0 : Int) < (k : Int) := by omega
        clear hk0
        generalize hg : G k = g at *
        generalize cur s G k = c at *
        clear hg
        go_wp2_with (first
          | (go_at_call 10; refine (HAdd.out _).mono ?_; rintro e w3 ⟨rfl, hb3⟩; have HB3 : Hid (Below wr.heap.size wr w3) := hb3; clear hb3)
          | (at_builtin; refine wpList_append_fits _ rfl (.tmp 38) (.tmp 45) 34 rfl w.heap.size 44 i0 4 Yba.underlying34 hi hz1 w.heap.size k len _ rfl ((owns_below HO.out HB3.out).alloc _) ⟨w3.heap.size, 0, none⟩ 1 1 [.int .u64 ((c : Int) + (1 + (g : Int))), .int .u64 ((k : Int) + 1), .int .i64 0, .pointer none] rfl rfl (news_four _ _ _ _ _ _) (by intro u hu; simp at hu; rcases hu with rfl | rfl | rfl | rfl <;> rfl) (by omega) ?_; intro w4 hown4 hgrow4))
        go_roundw
        case rel =>
          have HB4 : Hid (Below w.heap.size w w4) := ((HB.out.trans (HB3.out.mono hsz)).alloc (Nat.le_trans hsz HB3.out.size) _).grown hgrow4 (by simp; have := HB3.out.size; omega) (fun q h => by obtain rfl := Option.some.inj h; exact Nat.le_refl _)
          refine ⟨k + 1, by omega, rfl, ?_, by rw [show ((k + 1 : Nat) : Int) = (k : Int) + 1 by omega], HB4, ?_⟩
          · rw [show cur s G (k + 1) = ver s G k from rfl, HV.out]
            congr 1
          · have e : elems (ver s G) (k + 1) = elems (ver s G) k ++ [.int .u64 ((c : Int) + (1 + (g : Int))), .int .u64 ((k : Int) + 1), .int .i64 0, .pointer none] := by
              show elems (ver s G) k ++ _ = _
              rw [HV.out, show ((k + 1 : Nat) : Int) = (k : Int) + 1 by omega]
              first | rfl | (congr 3; omega)
            rw [e]
            exact hown4
        case measure => simp [intOf]; omega
    · obtain rfl : k = len := by omega
      go_wp2
      go_ret
      have hrw := rw_of_owns HO.out
      have hal : Below wr.heap.size wr (wr.alloc (.cells #[.int .u64 th, .slice (some ⟨w.heap.size, 0, none⟩) k k] 36)) := (Below.refl _ _).alloc (Nat.le_refl _) _
      refine ⟨wr.heap.size, w.heap.size, rfl, HB.out.alloc HB.out.size _, HB.out.size, by simp, Nat.le_refl _, Nat.ne_of_lt hrw.1, ?_, ?_, ?_, ?_, hrw.below hal hrw.1⟩
      · rw [World.cell?_alloc_at _ _ _ _ rfl]; rfl
      · rw [World.cell?_alloc_at _ _ _ _ rfl]; rfl
      · rw [World.frozen?_alloc_at _ _ _ _ rfl]
      · rw [World.frozen?_alloc_at _ _ _ _ rfl]
end Go.Proofs.Ybulkbdpe
