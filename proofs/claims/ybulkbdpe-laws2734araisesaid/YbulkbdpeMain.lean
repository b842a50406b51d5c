/-
  THE LAW's OWN WALK.
-/
import Derived.Test.YbulkbdpeLaw
namespace Go.Proofs.Ybulkbdpe
open Go.RowKit
set_option linter.unusedVariables false

theorem walk_long (a0 a1 a3 a4 a5 : Int) (x : Option Addr) (len cap : Nat) (w : World) (hl : 1024 < len) :
    Calls Yba.prog 4 #[.int .u16 a0, .int .u16 a1, .slice x len cap, .int .u16 a3, .int .u32 a4, .int .u32 a5] w fun e w' => e = .returned (.bool true) ∧ Below w.heap.size w w' := by
  have h : (1024 : Int) < (len : Int) := by omega
  go_enter Yba.func4, Yba.ntmps4
  go_wp2
  go_ret
  exact ⟨rfl, Below.refl _ _⟩

theorem ver_bound {s n : Nat} {G : Nat → Nat} (hG : ∀ k, k < n → G k ≤ 255) (hn : n ≤ 1024) (hs : s ≤ 65535) (t : Nat) (ht : t < n) : ver s G t ≤ 4294967295 := by
  have h1 := ver_le (s := s) hG t ht
  have h2 : s + 256 * (t + 1) ≤ 327679 := by omega
  exact Nat.le_trans h1 (Nat.le_trans h2 (by decide))

set_option maxHeartbeats 400000 in
theorem law_main (th s r fr hi : Nat) (x : Option Addr) (len cap : Nat) (G : Nat → Nat) (w : World) (hg : IsGaps w x len G) (hl : len ≤ 1024) (hth : th ≤ 65535) (hs : s ≤ 65535) (hr : r ≤ 65535) (hfr : fr ≤ 4294967295) (hhi : hi ≤ 4294967295) :
    Calls Yba.prog 4 #[.int .u16 th, .int .u16 s, .slice x len cap, .int .u16 r, .int .u32 fr, .int .u32 hi] w fun e w' => e = .returned (.bool true) ∧ Below w.heap.size w w' := by
  have k0 : ¬ ((1024 : Int) < (len : Int)) := by omega
  have HB : Hid (∀ w', Below w.heap.size w w' → Calls Yba.prog 5 #[.int .u16 th, .int .u16 s, .slice x len cap] w' fun e w'' => ∃ vb b, e = .returned (.pointer (some ⟨vb, 0, none⟩)) ∧ Built w' w'' vb b th len (ver s G)) := by
    intro w' h
    refine build th s x len cap G w' ⟨hg.1, fun hp => ?_⟩ hl hth hs
    obtain ⟨b, off, e, hb, hc⟩ := hg.2 hp
    exact ⟨b, off, e, Nat.lt_of_lt_of_le hb h.size, fun t ht => (h.cell (p := ⟨b, off + t, none⟩) hb).trans (hc t ht)⟩
  have HM : Hid (∀ s' t, s' < t → t < len → ver s G s' < ver s G t) := fun s' t h _ => ver_lt h
  have HV : Hid (∀ t, t < len → ver s G t ≤ 4294967295) := ver_bound hg.1 hl hs
  clear hg
  generalize ver s G = V at *
  go_enter Yba.func4, Yba.ntmps4
  go_upto_region 3 with fail
  go_wp2_with fail
  go_at_call 5
  refine (HB.out _ (Below.refl _ _)).mono ?_
  rintro e w1 ⟨vb, b, rfl, hb1⟩
  go_wp2_with fail
  go_at_call 5
  refine (HB.out _ hb1.1).mono ?_
  rintro e w2 ⟨wb, c, rfl, hb2⟩
  have HT : Hid (Two w w2 vb b wb c th th len V) := two_of hb1 hb2
  have q0 : w2.cell? ⟨wb, 0, none⟩ = some (.int .u64 th) := HT.out.2.2.1.2.2.2.2.1
  have q1 : w2.frozen? ⟨wb, 0, none⟩ = false := HT.out.2.2.1.2.2.2.2.2.2.1
  clear hb1 hb2
  go_upto_if 36 with fail
  go_cut [] from 37 to 41 (fun wx => Hid (Two w wx vb b wb c th (max th r) len V))
  case first =>
    by_cases hlt : th < r
    · have HT2 : Hid (Two w (w2.setCell ⟨wb, 0, none⟩ (.int .u64 r)) vb b wb c th (max th r) len V) := by
        rw [show max th r = r by omega]
        exact HT.out.put r
      go_wp2_with fail
      go_meet
      case rel => exact HT2
    · have HT2 : Hid (Two w w2 vb b wb c th (max th r) len V) := by
        rw [show max th r = th by omega]
        exact HT.out
      go_wp2_with fail
      go_meet
      case rel => exact HT2
  case rest =>
    have HR : Hid (Calls Yba.prog 9 #[.pointer (some ⟨vb, 0, none⟩), .int .u64 r] wc fun e w' => e = .returned (.tuple #[]) ∧ Hid (Below w.heap.size w w') ∧ Hid (Ob w.heap.size w' wb c (max th r) len V) ∧ ∃ (o X : Nat) (ad : Addr), o ≤ len ∧ Hid (Up V (max th r) o X) ∧ Hid (w'.cell? ⟨vb, 0, none⟩ = some (.int .u64 X) ∧ w'.cell? ⟨vb, 1, none⟩ = some (.slice (some ad) (len - o) (len - o)) ∧ (0 < len - o → ad = ⟨b, o * 4, none⟩) ∧ Rw w' b V len)) := by
      obtain ⟨t1, t2, t3, t4, t5, t6⟩ := hcut.out
      obtain ⟨v1, v2, v3, v4, v5, v6, v7, v8, v9⟩ := t2
      refine (raise vb b len th r V wc v5 v6 v7 v8 hl v4 v9 HV.out hth hr).mono ?_
      rintro e w' ⟨rfl, hbel, o, X, ad, e1, e2, e3, e4, e5, e6⟩
      exact ⟨rfl, (t1.trans (hbel.mono v1) : Below w.heap.size w w'), (t3.block hbel.size (e6 wb t4) (e6 c t5) : Ob w.heap.size w' wb c (max th r) len V), o, X, ad, e1, e2, (⟨e3, e4, e5, v9.block hbel.size (e6 b v4)⟩ : _ ∧ _ ∧ _ ∧ _)⟩
    clear hcut HT q0 q1 HB
    go_wp2_with fail
    go_at_call 9
    refine HR.out.mono ?_
    rintro e w4 ⟨rfl, HB4, HO4, o, X, ad, hon, HU, HV4⟩
    have HMv : Hid (Calls Yba.prog 6 #[.pointer (some ⟨vb, 0, none⟩), .int .u64 fr, .int .u64 hi] w4 fun e w' => ∃ (k : Nat) (g : Bool), e = .returned (.tuple #[.bool g, .agg #[.int .u64 k, .int .i64 0, .pointer none]]) ∧ k ≤ 1024 ∧ Hid (Below w4.heap.size w4 w') ∧
        Hid (∀ w5, Below w4.heap.size w4 w5 → Calls Yba.prog 6 #[.pointer (some ⟨wb, 0, none⟩), .int .u64 fr, .int .u64 hi] w5 fun e w6 => e = .returned (.tuple #[.bool g, .agg #[.int .u64 k, .int .i64 0, .pointer none]]) ∧ Hid (Below w5.heap.size w5 w6))) := by
      obtain ⟨v0, v1, v2, v3⟩ := HV4.out
      refine (missing ad vb b o (len - o) (len - o) len X fr hi V w4 v0 v1 v2 (by omega) (by omega) v3 HM.out HU.out.2.1 hfr hhi).mono ?_
      rintro e w' ⟨f1, J1, ht1, rfl, hb⟩
      refine ⟨_, _, rfl, by split <;> omega, hb, fun w5 h5 => ?_⟩
      have o5 := HO4.out.below h5
      obtain ⟨u1, u2, u3, u4, u5, u6, u7, u8, u9⟩ := o5
      refine (missing ⟨c, 0, none⟩ wb c 0 len len len (max th r) fr hi V w5 u5 u6 (fun _ => by rw [Nat.zero_mul]) hl (by omega) u9 HM.out (by omega) hfr hhi).mono ?_
      rintro e w6 ⟨f2, J2, ht2, rfl, hb6⟩
      obtain ⟨rfl, rfl⟩ := same_told HM.out hon HU.out ht1 ht2
      exact ⟨rfl, hb6⟩
    go_wp2_with fail
    go_at_call 6
    refine HMv.out.mono ?_
    rintro e w5 ⟨k, g, rfl, hk, HB5, HMw⟩
    go_wp2_with fail
    go_at_call 6
    refine (HMw.out _ (HB5.out.alloc HB5.out.size _)).mono ?_
    rintro e w6 ⟨rfl, HB6⟩
    obtain ⟨hc6, hf6⟩ := bcell HB6.out
    have z0 : w6.cell? ⟨w5.heap.size, 0, none⟩ = some (.int .u64 k) := by rw [hc6 _ _ (by simp), World.cell?_alloc_at _ _ _ _ rfl]; rfl
    have z1 : w6.cell? ⟨w5.heap.size, 1, none⟩ = some (.int .i64 0) := by rw [hc6 _ _ (by simp), World.cell?_alloc_at _ _ _ _ rfl]; rfl
    have z2 : w6.cell? ⟨w5.heap.size, 2, none⟩ = some (.pointer none) := by rw [hc6 _ _ (by simp), World.cell?_alloc_at _ _ _ _ rfl]; rfl
    have hs6 : w5.heap.size < w6.heap.size := by have := HB6.out.size; simp at this; omega
    have HBz : Hid (Below w.heap.size w w6) := by
      have h45 : Below w.heap.size w w5 := HB4.out.trans (HB5.out.mono HB4.out.size)
      exact (h45.alloc h45.size _).trans (HB6.out.mono (by simp; have := h45.size; omega))
    have HEq : Hid (∀ w, Calls Yba.prog 8 #[.agg #[.int .u64 k, .int .i64 0, .pointer none], .agg #[.int .u64 k, .int .i64 0, .pointer none]] w fun e w' => e = .returned (.bool true) ∧ Below w.heap.size w w') := fun w => equal k w hk
    clear hc6 hf6 HB6 HMw
    go_wp2_with fail
    go_at_call 8
    refine (HEq.out _).mono ?_
    rintro e w7 ⟨rfl, hb7⟩
    go_wp2
    go_ret
    exact ⟨rfl, (HBz.out.alloc HBz.out.size _).trans (hb7.mono (by simp; have := HBz.out.size; omega))⟩
end Go.Proofs.Ybulkbdpe
