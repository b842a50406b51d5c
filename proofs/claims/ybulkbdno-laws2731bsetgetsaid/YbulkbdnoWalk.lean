/-
  THE LAW's OWN WALK.
-/
import Derived.Test.YbulkbdnoHeap
import Derived.Deep.QuietTactic
import Derived.BigQuiet
namespace Go.Proofs.Ybulkbdno
open Go.RowKit
theorem info39 : (Yba.prog.info? 39).map (fun i => (i.zero, i.size, i.bytes)) = some (some (.agg #[.pointer none]), 1, 8) := by kernel_rfl
theorem info3 : (Yba.prog.info? 3).map (fun i => (i.zero, i.size, i.bytes)) = some (some (.int .i64 0), 1, 8) := by kernel_rfl
theorem info4 : (Yba.prog.info? 4).map (fun i => (i.zero, i.size, i.bytes)) = some (some (.bool false), 1, 1) := by kernel_rfl

theorem make24 (C : Nat) (hC : C ≤ 4) (w : World) : (Instr.makeSlice 24 (.int .i64 (C : Int)) (.int .i64 (C : Int))).run Yba.prog w = .ok (.slice (some ⟨w.heap.size, 0, none⟩) C C) (w.alloc (.cells (madeCells #[.pointer none] C) 39)) := by
  obtain ⟨i, hi, hzz⟩ := Option.map_eq_some_iff.1 info39
  simp only [Prod.mk.injEq] at hzz
  obtain ⟨hz, hs, hb⟩ := hzz
  have hr := run_make (P := Yba.prog) w 24 39 i _ Yba.underlying24 hi hz .i64 .i64 (C : Int) (C : Int) (by omega) (Int.le_refl _) (by rw [hb]; omega) (by omega)
  simp only [Int.toNat_natCast, hs, Nat.mul_one] at hr
  exact hr

set_option maxHeartbeats 400000 in
theorem new_any (n C : Nat) (w : World) (hn : n ≤ 1023) (hC : C = (n + 255) / 256) :
    Calls Yba.prog 6 #[.int .i64 n] w fun e w' => e = .returned (.slice (some ⟨w.heap.size, 0, none⟩) C C) ∧ w' = w.alloc (.cells (madeCells #[.pointer none] C) 39) := by
  have hm := make24 C (by omega)
  have hq : ((n : Int) + 256 - 1) / 256 = (C : Int) := by omega
  clear hC
  go_enter Yba.func6, Yba.ntmps6
  go_wp2
  go_ret
  exact ⟨rfl, rfl⟩

theorem index_of (z n : Nat) (hn : 0 < n) : ∃ i : Nat, (z : Int) * 257 % (n : Int) = (i : Int) ∧ i < n :=
  ⟨z * 257 % n, by rw [Int.natCast_emod, Int.natCast_mul]; rfl, Nat.mod_lt _ hn⟩

/-- the three rows as they are laid -/
theorem inv_start (w : World) (n C : Nat) : Inv w (((w.alloc (.cells (madeCells #[.pointer none] C) 39)).alloc (.cells (madeCells #[.int .i64 0] n) 3)).alloc (.cells (madeCells #[.bool false] C) 4)) n C (fun _ => none) (fun _ => 0) (fun _ => 0) (fun _ => false) := by
  have h1 := World.rowIs_made w (.pointer none) C 39
  have h2 := World.rowIs_made (w.alloc (.cells (madeCells #[.pointer none] C) 39)) (.int .i64 0) n 3
  have h3 := World.rowIs_made ((w.alloc (.cells (madeCells #[.pointer none] C) 39)).alloc (.cells (madeCells #[.int .i64 0] n) 3)) (.bool false) C 4
  have s1 : (w.alloc (.cells (madeCells #[.pointer none] C) 39)).heap.size = w.heap.size + 1 := by simp
  have s2 : ((w.alloc (.cells (madeCells #[.pointer none] C) 39)).alloc (.cells (madeCells #[.int .i64 0] n) 3)).heap.size = w.heap.size + 2 := by simp
  rw [s1] at h2
  rw [s2] at h3
  refine ⟨(((Below.refl _ _).alloc (Nat.le_refl _) _).alloc (by omega) _).alloc (by omega) _, by simp, ⟨by omega, (h1.alloc _).alloc _, fun k c _ h => (by cases h), fun _ _ _ _ _ => rfl, fun _ _ _ _ _ h => (by cases h)⟩, h2.alloc _, h3⟩

/-- The ops that came in: where there is one, a row of pairs of cells in old memory. -/
def IsOps (w : World) (x : Option Addr) (len : Nat) (I V : Nat → Int) : Prop :=
  0 < len → ∃ b off, x = some ⟨b, off, none⟩ ∧ b < w.heap.size ∧ ∀ t, t < len → 0 ≤ I t ∧ I t ≤ 65535 ∧ w.cell? ⟨b, off + t * 2, none⟩ = some (.int .u16 (I t)) ∧ w.cell? ⟨b, off + t * 2 + 1, none⟩ = some (.int .i64 (V t))

set_option maxHeartbeats 1000000 in
theorem walk_main (p q n C len cap : Nat) (x : Option Addr) (I V : Nat → Int) (w : World) (hp : p ≤ 255) (hq : q ≤ 255) (hn : (p : Int) % 4 * 256 + (q : Int) = (n : Int)) (hn0 : 0 < n) (hn1 : n ≤ 1023) (hC : C = (n + 255) / 256)
    (hlen : len ≤ 1024) (hx : IsOps w x len I V) :
    Calls Yba.prog 3 #[.int .u8 p, .int .u8 q, .slice x len cap] w fun e w' => e = .returned (.bool true) ∧ Below w.heap.size w w' := by
  have hC4 : C ≤ 4 := by omega
  have hnC : ∀ i, i < n → i / 256 < C := by intro i hi; omega
  have hm3 := run_make_row' (P := Yba.prog) 26 3 (.int .i64 0) 8 Yba.underlying26 info3 rfl .i64 .i64 n (by omega) (by omega)
  have hm4 := run_make_row' (P := Yba.prog) 27 4 (.bool false) 1 Yba.underlying27 info4 rfl .i64 .i64 C (by omega) (by omega)
  have HC : Hid (C = (n + 255) / 256) := hC
  have hq2 : ((n : Int) + 255) / 256 = (C : Int) := by omega
  have HR : Hid (IsOps w x len I V) := hx
  have HnC : Hid (∀ i, i < n → i / 256 < C) := hnC
  clear hC hx hnC
  go_enter Yba.func3, Yba.ntmps3
  go_wp2_with (go_at_call 6; refine (new_any n C _ hn1 HC.out).mono ?_; rintro e w' ⟨rfl, rfl⟩)
  go_loopw [43] (fun iv wr => ∃ (t : Nat) (P : Nat → Option Nat) (M : Nat → Int), t ≤ len ∧ iv = .int .i64 t ∧ Inv w wr n C P M M (fun k => (P k).isSome)) (fun iv _ => len - (intOf iv).toNat)
  case atStart => exact ⟨0, fun _ => none, fun _ => 0, Nat.zero_le _, rfl, inv_start w n C⟩
  case round =>
    obtain ⟨t, P, M, ht, rfl, hinv⟩ := hrel
    clear hq2
    by_cases hlt : t < len
    · obtain ⟨b, off, hxx, hb, hcs⟩ := HR.out (by omega)
      subst hxx
      obtain ⟨hz0, hz1, hs0, hs1⟩ := hcs t hlt
      have hr0 : wr.cell? ⟨b, off + t * 2, none⟩ = some (.int .u16 (I t)) := by rw [hinv.below.cell hb]; exact hs0
      have hr1 : wr.cell? ⟨b, off + t * 2 + 1, none⟩ = some (.int .i64 (V t)) := by rw [hinv.below.cell hb]; exact hs1
      clear hcs hs0 hs1 HR
      generalize I t = z at *
      generalize V t = v at *
      obtain ⟨z, rfl⟩ := Int.eq_ofNat_of_zero_le hz0
      obtain ⟨i, hi, hin⟩ := index_of z n hn0
      have hk := HnC.out i hin
      go_wp2_with (go_at_call 7; refine (set_inv hinv _ hC4 i v hk (by omega)).mono ?_; rintro e w2 ⟨rfl, hw2, hbox⟩; obtain ⟨P', hP', hinv2⟩ := hw2.out; have HP' : Hid _ := hP'; clear hP' hw2; have hmc := hinv2.md.cell (i := i) hin; have hmf := hinv2.md.frozen i; have htc : w2.cell? ⟨w.heap.size + 1 + 1, i / 256, none⟩ = _ := hinv2.tc.cell (i := i / 256) hk; have htf : w2.frozen? ⟨w.heap.size + 1 + 1, i / 256, none⟩ = false := hinv2.tc.frozen (i / 256))
      go_roundw
      case rel =>
        refine ⟨t + 1, P', upd M i v, by omega, by go_num, ?_⟩
        have hfin := (hinv2.model i v).touch (i / 256)
        have he : (fun k => (P' k).isSome) = fun j => if j = i / 256 then true else (P j).isSome := funext HP'.out
        rw [he]
        exact hfin
      case measure => simp [intOf]; omega
    · obtain ⟨w1, rfl⟩ : ∃ w1 : World, w1 = wr := ⟨_, rfl⟩
      clear hm3 hm4 HR
      go_wp2_with fail
      go_loopw [14] (fun jv wr => ∃ j : Nat, j ≤ n ∧ jv = .int .i64 j ∧ Inv w wr n C P M M (fun k => (P k).isSome)) (fun jv _ => n - (intOf jv).toNat)
      case atStart => exact ⟨0, Nat.zero_le _, rfl, hinv⟩
      case round =>
        clear hinv
        obtain ⟨j, hj, rfl, hinv⟩ := hrel
        by_cases hjn : j < n
        · have hk := HnC.out j hjn
          have hmc := hinv.md.cell (i := j) hjn
          go_wp2_with fail
          go_quiet ((go_at_call 8; exact Calls.quiet_of_same (get_inv (hinv.drewN _) hC4 j hk (by omega))))
          go_wp2
          go_roundw
          case rel => exact ⟨j + 1, by omega, by go_num, hinv.drewN _⟩
          case measure => simp [intOf]; omega
        · obtain ⟨w2, rfl⟩ : ∃ w2 : World, w2 = wr := ⟨_, rfl⟩
          go_wp2_with fail
          go_loopw [83] (fun kv wr => ∃ k : Nat, k ≤ C ∧ kv = .int .i64 k ∧ Inv w wr n C P M M (fun k => (P k).isSome)) (fun kv _ => C - (intOf kv).toNat)
          case atStart => exact ⟨0, Nat.zero_le _, rfl, hinv⟩
          case round =>
            clear hinv
            obtain ⟨k, hk, rfl, hinv⟩ := hrel
            by_cases hkC : k < C
            · have hld := fun m => load_inv (hinv.drewN m) k hkC
              have htc : wr.cell? ⟨w.heap.size + 1 + 1, k, none⟩ = _ := hinv.tc.cell (i := k) hkC
              cases hp : P k with
              | none =>
                rw [hp] at htc hld
                have Hld : Hid _ := hld
                clear hld hp
                go_wp2_with fail
                go_quiet ((go_at_call 9; exact Calls.quiet_of_same (Hld.out _)))
                go_wp2
                go_roundw
                case rel => exact ⟨k + 1, by omega, by go_num, hinv.drewN _⟩
                case measure => simp [intOf]; omega
              | some c =>
                rw [hp] at htc hld
                have Hld : Hid _ := hld
                clear hld hp
                go_wp2_with fail
                go_quiet ((go_at_call 9; exact Calls.quiet_of_same (Hld.out _)))
                go_wp2
                go_roundw
                case rel => exact ⟨k + 1, by omega, by go_num, hinv.drewN _⟩
                case measure => simp [intOf]; omega
            · go_wp2
              go_ret
              exact ⟨rfl, hinv.below⟩
set_option maxHeartbeats 400000 in
theorem walk_long (p q : Int) (len cap : Nat) (x : Option Addr) (w : World) (hlen : 1024 < len) :
    Calls Yba.prog 3 #[.int .u8 p, .int .u8 q, .slice x len cap] w fun e w' => e = .returned (.bool true) ∧ Below w.heap.size w w' := by
  have h : (1024 : Int) < (len : Int) := by omega
  go_enter Yba.func3, Yba.ntmps3
  go_wp2
  go_ret
  exact ⟨rfl, Below.refl _ _⟩

set_option maxHeartbeats 1000000 in
theorem walk_zero (p : Nat) (len cap : Nat) (x : Option Addr) (w : World) (hp : p ≤ 255) (hn : (p : Int) % 4 = 0) (hlen : len ≤ 1024) :
    Calls Yba.prog 3 #[.int .u8 p, .int .u8 0, .slice x len cap] w fun e w' => e = .returned (.bool true) ∧ Below w.heap.size w w' := by
  have hm3 := run_make_row' (P := Yba.prog) 26 3 (.int .i64 0) 8 Yba.underlying26 info3 rfl .i64 .i64 0 (by omega) (by omega)
  have hm4 := run_make_row' (P := Yba.prog) 27 4 (.bool false) 1 Yba.underlying27 info4 rfl .i64 .i64 0 (by omega) (by omega)
  simp only [Int.natCast_zero] at hm3 hm4
  have hnew : ∀ w, Calls Yba.prog 6 #[.int .i64 0] w fun e w' => e = .returned (.slice (some ⟨w.heap.size, 0, none⟩) 0 0) ∧ w' = w.alloc (.cells (madeCells #[.pointer none] 0) 39) := fun w => new_any 0 0 w (by omega) rfl
  have Hnew : Hid _ := hnew
  clear hnew
  go_enter Yba.func3, Yba.ntmps3
  go_wp2_with (go_at_call 6; refine (Hnew.out _).mono ?_; rintro e w' ⟨rfl, rfl⟩)
  go_loop [14] (fun j => j = .int .i64 0) (fun _ => 0)
  case atStart => rfl
  case round =>
    subst hrel
    go_wp2
    go_loop [83] (fun k => k = .int .i64 0) (fun _ => 0)
    case atStart => rfl
    case round =>
      subst hrel
      go_wp2
      go_ret
      exact ⟨rfl, (((Below.refl _ _).alloc (Nat.le_refl _) _).alloc (by simp) _).alloc (by simp; omega) _⟩
end Go.Proofs.Ybulkbdno
