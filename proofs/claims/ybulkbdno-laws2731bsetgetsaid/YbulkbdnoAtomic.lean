/-
  THE WALKS of (*atomic.Pointer).Load, CompareAndSwap and of sparse's get, set, at rows that the call itself has made.
-/
import Derived.Test.YbulkbdnoRows
import Derived.WalkKit
import Derived.WalkSpells
import Derived.WalkLawsBesides
import Derived.Laws.LoneSync
import Derived.Deep.OwnRows
namespace Go.Proofs.Ybulkbdno
open Go.RowKit

theorem load_call {a : Addr} {p : Option Addr} {w : World} (hc : w.cell? a = some (.pointer p)) :
    (callFunc 20 #[.pointer (some a)]).run Yba.prog w = .ok (.value (.pointer p)) w := by
  rw [run_callFunc_extern Yba.func20 (by kernel_rfl) (by kernel_rfl) (by kernel_rfl) (e := Extern.Atomic.loadT .ptr) (by kernel_rfl)]
  change (Sem.run Yba.prog (do Extern.Atomic.read .ptr (← asAddr (.pointer (some a)))) w).andThen _ = _
  simp [Extern.Atomic.read, asAddr, hc, Result.andThen]

theorem cas_call {a c : Addr} {w : World} (hc : w.cell? a = some (.pointer none)) (hz : w.frozen? a = false) :
    (callFunc 29 #[.pointer (some a), .pointer none, .pointer (some c)]).run Yba.prog w = .ok (.value (.bool true)) (w.setCell a (.pointer (some c))) := by
  rw [run_callFunc_extern Yba.func29 (by kernel_rfl) (by kernel_rfl) (by kernel_rfl) (e := Extern.Atomic.casT .ptr) (by kernel_rfl)]
  change (Sem.run Yba.prog (do
    let a' ← asAddr (.pointer (some a))
    if ← Extern.Atomic.touchesFrozen a' then unsupported _
    let eq ← match Extern.Atomic.T.ptr, ← Extern.Atomic.read .ptr a', Value.pointer none with
      | _, .int _ x, .int _ y => pure (x == y)
      | .ptr, .pointer x, .pointer y => samePointer x y
      | .int _, .pointer (some _), .int _ 0 | .int _, .int _ 0, .pointer (some _) => pure false
      | .int _, .pointer (some _), _ | .int _, _, .pointer (some _) => unsupported .addressObserved
      | _, _, _ => stuck _
    if eq then store a' (.pointer (some c)) .atomic
    pure (Value.bool eq)) w).andThen _ = _
  simp [Extern.Atomic.touchesFrozen, Extern.Atomic.read, asAddr, viewAt, World.shape?_isSome_of_cell? hc, hc, hz, samePointer, run_store Yba.prog w a (.pointer (some c)) .atomic rfl, Result.andThen]

theorem bindEq {α β : Type} (x : Sem α) (f : α → Sem β) : x.bind f = (x >>= f) := rfl
theorem pureEq {α : Type} (x : α) : Sem.pure x = (pure x : Sem α) := rfl
theorem back_some {c : Nat} {w : World} (hsh : w.shape? c = some (41, 256)) :
    (convert 37 33 (.pointer (some ⟨c, 0, none⟩))).run Yba.prog w = .ok (.pointer (some ⟨c, 0, none⟩)) w := by
  obtain ⟨j, hj⟩ : ∃ j, Yba.prog.info? 41 = some j := Option.isSome_iff_exists.1 (by kernel_rfl)
  have hlies : liesAt Yba.prog Yba.prog.depth 41 (256 / Yba.prog.cellsOf 41) 0 41 1 = true := by kernel_rfl
  simp only [convert, run_underlying Yba.underlying37, run_underlying Yba.underlying33, Sem.run_bind, Result.andThen]
  have h37 := Yba.underlying37
  have h33 := Yba.underlying33
  generalize Yba.prog = P at *
  conv => lhs; whnf
  simp [bindEq, pureEq, h37, run_underlying h33, Conv.seenAt, viewAt, hsh, variablesAt, hlies, sizeOf, typeInfo, hj]
theorem to_some {c : Nat} {w : World} (hsh : w.shape? c = some (41, 256)) :
    (convert 33 37 (.pointer (some ⟨c, 0, none⟩))).run Yba.prog w = .ok (.pointer (some ⟨c, 0, none⟩)) w := by
  obtain ⟨j, hj, hz⟩ := Option.map_eq_some_iff.1 (show (Yba.prog.info? 41).map (fun i => decide (i.size = 0)) = some false by kernel_rfl)
  have hz' : ¬ j.size = 0 := by simpa using hz
  simp only [convert, run_underlying Yba.underlying37, run_underlying Yba.underlying33, Sem.run_bind, Result.andThen]
  have h37 := Yba.underlying37
  have h33 := Yba.underlying33
  generalize Yba.prog = P at *
  conv => lhs; whnf
  simp [bindEq, pureEq, h33, run_underlying h37, Conv.seenAt, viewAt, cellsIn, hsh, sizeOf, typeInfo, hj, hz']
theorem back_none (w : World) : (convert 37 33 (.pointer none)).run Yba.prog w = .ok (.pointer none) w := by kernel_rfl
theorem to_none (w : World) : (convert 33 37 (.pointer none)).run Yba.prog w = .ok (.pointer none) w := by kernel_rfl

theorem shape_row {w : World} {b : Nat} {t : TypeId} {n : Nat} {f : Nat → Value} (h : w.rowIs b t n f) : w.shape? b = some (t, n) := by
  obtain ⟨c, hb, hn, _⟩ := h
  simp [World.shape?, hb, hn]

set_option maxHeartbeats 400000 in
theorem load_none (b k : Nat) (w : World) (hc : w.cell? ⟨b, k, none⟩ = some (.pointer none)) :
    Calls Yba.prog 9 #[.pointer (some ⟨b, k, none⟩)] w fun e w' => e = .returned (.pointer none) ∧ w' = w := by
  have h1 := load_call hc
  have h2 := back_none
  go_enter Yba.func9, Yba.ntmps9
  go_wp2
  go_ret
  exact ⟨rfl, rfl⟩

set_option maxHeartbeats 400000 in
theorem load_some (b k c : Nat) (w : World) (hc : w.cell? ⟨b, k, none⟩ = some (.pointer (some ⟨c, 0, none⟩))) (hsh : w.shape? c = some (41, 256)) :
    Calls Yba.prog 9 #[.pointer (some ⟨b, k, none⟩)] w fun e w' => e = .returned (.pointer (some ⟨c, 0, none⟩)) ∧ w' = w := by
  have h1 := load_call hc
  have h2 := back_some hsh
  go_enter Yba.func9, Yba.ntmps9
  go_wp2
  go_ret
  exact ⟨rfl, rfl⟩

set_option maxHeartbeats 400000 in
theorem cas_none (b k c : Nat) (w : World) (hc : w.cell? ⟨b, k, none⟩ = some (.pointer none)) (hz : w.frozen? ⟨b, k, none⟩ = false) (hsh : w.shape? c = some (41, 256)) :
    Calls Yba.prog 19 #[.pointer (some ⟨b, k, none⟩), .pointer none, .pointer (some ⟨c, 0, none⟩)] w fun e w' => e = .returned (.bool true) ∧ w' = w.setCell ⟨b, k, none⟩ (.pointer (some ⟨c, 0, none⟩)) := by
  have h1 := cas_call (c := ⟨c, 0, none⟩) hc hz
  have h2 := to_none
  have h3 := to_some hsh
  go_enter Yba.func19, Yba.ntmps19
  go_wp2
  go_ret
  exact ⟨rfl, rfl⟩

/-- A fresh chunk's cells. -/
def Z256 : Array Value := Array.replicate 256 (.int .i64 0)

theorem zero41 (w : World) : (zeroValue 41).run Yba.prog w = .ok (.agg Z256) w := by
  kernel_rfl

set_option maxHeartbeats 400000 in
theorem get_none (b C i : Nat) (w : World) (hi : i / 256 < C) (hC : C ≤ 4) (hb : i ≤ 1023) (hc : w.cell? ⟨b, i / 256, none⟩ = some (.pointer none)) :
    Calls Yba.prog 8 #[.slice (some ⟨b, 0, none⟩) C C, .int .i64 i] w fun e w' => e = .returned (.int .i64 0) ∧ w' = w := by
  go_enter Yba.func8, Yba.ntmps8
  go_wp2_with (go_at_call 9; refine (load_none _ _ _ hc).mono ?_; rintro e w' ⟨rfl, rfl⟩)
  go_ret
  exact ⟨rfl, rfl⟩

set_option maxHeartbeats 400000 in
theorem get_some (b C i c : Nat) (v : Int) (w : World) (hi : i / 256 < C) (hC : C ≤ 4) (hb : i ≤ 1023) (hc : w.cell? ⟨b, i / 256, none⟩ = some (.pointer (some ⟨c, 0, none⟩))) (hsh : w.shape? c = some (41, 256))
    (hv : w.cell? ⟨c, i % 256, none⟩ = some (.int .i64 v)) :
    Calls Yba.prog 8 #[.slice (some ⟨b, 0, none⟩) C C, .int .i64 i] w fun e w' => e = .returned (.int .i64 v) ∧ w' = w := by
  go_enter Yba.func8, Yba.ntmps8
  go_wp2_with (go_at_call 9; refine (load_some _ _ _ _ hc hsh).mono ?_; rintro e w' ⟨rfl, rfl⟩)
  go_ret
  exact ⟨rfl, rfl⟩

set_option maxHeartbeats 400000 in
theorem set_some (b C i c : Nat) (u v : Int) (w : World) (hi : i / 256 < C) (hC : C ≤ 4) (hb : i ≤ 1023) (hc : w.cell? ⟨b, i / 256, none⟩ = some (.pointer (some ⟨c, 0, none⟩))) (hsh : w.shape? c = some (41, 256))
    (hv : w.cell? ⟨c, i % 256, none⟩ = some (.int .i64 u)) (hz : w.frozen? ⟨c, i % 256, none⟩ = false) :
    Calls Yba.prog 7 #[.slice (some ⟨b, 0, none⟩) C C, .int .i64 i, .int .i64 v] w fun e w' => e = .returned (.tuple #[]) ∧ w' = w.setCell ⟨c, i % 256, none⟩ (.int .i64 v) := by
  go_enter Yba.func7, Yba.ntmps7
  go_wp2_with (go_at_call 9; refine (load_some _ _ _ _ hc hsh).mono ?_; rintro e w' ⟨rfl, rfl⟩)
  go_end0
  exact ⟨rfl, rfl⟩

theorem size_Z : Z256.size = 256 := by simp [Z256]
theorem at_Z (i : Nat) (hi : i < Z256.size) : Z256[i]? = some (.int .i64 0) := by
  rw [size_Z] at hi
  simp [Z256, hi]
theorem new_row (w : World) : (w.alloc (.cells Z256 41)).rowIs w.heap.size 41 256 (fun _ => .int .i64 0) := by
  have h := World.rowIs_alloc w Z256 41 (fun _ => .int .i64 0) at_Z
  rw [size_Z] at h
  exact h

theorem cas_new (b k j : Nat) (w : World) (hlt : b < w.heap.size) (hj : j < 256) (hc : w.cell? ⟨b, k, none⟩ = some (.pointer none)) (hz : w.frozen? ⟨b, k, none⟩ = false) :
    Calls Yba.prog 19 #[.pointer (some ⟨b, k, none⟩), .pointer none, .pointer (some ⟨w.heap.size, 0, none⟩)] (w.alloc (.cells Z256 41)) fun e w' => e = .returned (.bool true) ∧
      Hid (w' = (w.alloc (.cells Z256 41)).setCell ⟨b, k, none⟩ (.pointer (some ⟨w.heap.size, 0, none⟩))) ∧ w'.cell? ⟨w.heap.size, j, none⟩ = some (.int .i64 0) ∧ w'.frozen? ⟨w.heap.size, j, none⟩ = false := by
  have hn := new_row w
  have hc2 : (w.alloc (.cells Z256 41)).cell? ⟨b, k, none⟩ = some (.pointer none) := by rw [World.cell?_alloc_past _ _ _ hlt]; exact hc
  have hz2 : (w.alloc (.cells Z256 41)).frozen? ⟨b, k, none⟩ = false := by rw [World.frozen?_alloc_past _ _ _ hlt]; exact hz
  have hs2 := shape_row hn
  have hn3 := hn.setOther (a := ⟨b, k, none⟩) (by show w.heap.size ≠ b; omega) (.pointer (some ⟨w.heap.size, 0, none⟩))
  refine (cas_none b k w.heap.size _ hc2 hz2 hs2).mono ?_
  rintro e w' ⟨he, hw⟩
  refine ⟨he, hw, ?_, ?_⟩
  · rw [hw]; exact hn3.cell hj
  · rw [hw]; exact hn3.frozen j

set_option maxHeartbeats 400000 in
theorem set_none (b C i : Nat) (v : Int) (w : World) (hi : i / 256 < C) (hC : C ≤ 4) (hb : i ≤ 1023) (hlt : b < w.heap.size) (hc : w.cell? ⟨b, i / 256, none⟩ = some (.pointer none)) (hz : w.frozen? ⟨b, i / 256, none⟩ = false) :
    Calls Yba.prog 7 #[.slice (some ⟨b, 0, none⟩) C C, .int .i64 i, .int .i64 v] w fun e w' => e = .returned (.tuple #[]) ∧
      w' = ((w.alloc (.cells Z256 41)).setCell ⟨b, i / 256, none⟩ (.pointer (some ⟨w.heap.size, 0, none⟩))).setCell ⟨w.heap.size, i % 256, none⟩ (.int .i64 v) := by
  have hj : i % 256 < 256 := by omega
  go_enter Yba.func7, Yba.ntmps7
  go_wp2_with (first | (with_reducible rw [zero41]) | (go_at_call 9; refine (load_none _ _ _ hc).mono ?_; rintro e w' ⟨rfl, rfl⟩) | (go_at_call 19; refine (cas_new b (i / 256) (i % 256) _ hlt hj hc hz).mono ?_; rintro e w1 ⟨rfl, hw1, hcell, hfro⟩))
  go_end0
  refine ⟨rfl, ?_⟩
  rw [hw1.out]
end Go.Proofs.Ybulkbdno
