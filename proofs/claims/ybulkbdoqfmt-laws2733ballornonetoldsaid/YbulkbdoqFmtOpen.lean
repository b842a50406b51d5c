/-
  THE LONG INPUTS; THE TWO SLICES OPENED; THE START THAT IS THERE.
-/
import Derived.Test.YbulkbdoqFmtTie
import Derived.Test.YbulkbdoqFmtCards
import Derived.ProofKit
import Derived.OpenShut
import Derived.OpenVars
import Derived.ChangeOld
import Derived.Below
import Derived.Deep.Slices
import Derived.Deep.SlicePairs
import Derived.Stop.JoinedAt
import Derived.Stop.JoinedTold
import Derived.Stop.Texts
import Derived.Stop.LaidErr
import Derived.Lib.LaidTab
import Derived.Deep.DeepLaidRun
import Derived.Test.YbulkbdoqFmtLaw
namespace Go.Proofs.YbulkbdoqFmt
open Go.ChangeShapes Go.WideShapes Go.ChangeAt Go.RowKit Go.Deep
open Go.Extern.Stop Go.Stop Go.Extern
set_option linter.unusedVariables false

theorem walk_long1 (x1 : Option Addr) (len1 cap1 : Nat) (x2 : Option Addr) (len2 cap2 : Nat) (w : World) (hl : 1024 < len1) :
    Calls Ybaf.prog 3 #[.slice x1 len1 cap1, .slice x2 len2 cap2] w fun e w' => e = .returned (.bool true) ∧ Below w.heap.size w w' := by
  have h : (1024 : Int) < (len1 : Int) := by omega
  go_enter Ybaf.func3, Ybaf.ntmps3
  go_wp2
  go_ret
  exact ⟨rfl, Below.refl _ _⟩

theorem walk_long2 (x1 : Option Addr) (len1 cap1 : Nat) (x2 : Option Addr) (len2 cap2 : Nat) (w : World) (hl1 : len1 ≤ 1024) (hl : 1024 < len2) :
    Calls Ybaf.prog 3 #[.slice x1 len1 cap1, .slice x2 len2 cap2] w fun e w' => e = .returned (.bool true) ∧ Below w.heap.size w w' := by
  have h1 : ¬ ((1024 : Int) < (len1 : Int)) := by omega
  have h : (1024 : Int) < (len2 : Int) := by omega
  go_enter Ybaf.func3, Ybaf.ntmps3
  go_wp2
  go_ret
  exact ⟨rfl, Below.refl _ _⟩

theorem spot_none {w : World} {a : Addr} {v : Value} (h : w.cell? a = some v) : a.spot = none ∧ a.block < w.heap.size := by
  obtain ⟨e, n, hs, _, hsp⟩ := World.shape?_of_cell? h
  refine ⟨hsp, ?_⟩
  unfold World.shape? at hs
  cases hb : w.heap[a.block]? with
  | none => rw [hb] at hs; cases hs
  | some o => exact (Array.getElem?_eq_some_iff.1 hb).1

theorem cells29 : Ybaf.prog.cellsOf 29 = 2 := by kernel_rfl
theorem cells32 : Ybaf.prog.cellsOf 32 = 4 := by kernel_rfl
theorem cells2 : Ybaf.prog.cellsOf 2 = 1 := by kernel_rfl
theorem cells5 : Ybaf.prog.cellsOf 5 = 1 := by kernel_rfl
theorem cells9 : Ybaf.prog.cellsOf 9 = 1 := by kernel_rfl
theorem cells76 : Ybaf.prog.cellsOf 76 = 1 := by kernel_rfl

theorem open_tots {H : Type} {enc : TypeId × Value → H} {W : World} {x : Option Addr} {len cap : Nat} {d : DataW H} {p : List MemPlace} (h : DataW.Trod enc Ybaf.prog W 0 (fun _ => true) true 22 (.slice x len cap) d p) :
    ∃ TC TP, IsTots W x len TC TP := by
  obtain ⟨fuel, hf⟩ := h
  rcases open_slice_pairs Ybaf.underlying22 Ybaf.underlying29 cells29 rfl rfl cells2 cells5 hf with ⟨hcs, _⟩ | ⟨a, l, c, m, k, V0, V1, D0, D1, P0, P1, hcs, _, hl, _, hm, _, hcell⟩
  · simp [Value.cells] at hcs
    obtain ⟨rfl, rfl, rfl⟩ := hcs
    exact ⟨fun _ => 0, fun _ => 0, fun h => absurd h (by omega)⟩
  · simp [Value.cells] at hcs
    obtain ⟨rfl, rfl, rfl⟩ := hcs
    have hlm : len ≤ m := by rw [hm]; simpa using hl
    refine ⟨fun t => intOf (V0 t), fun t => intOf (V1 t), fun hpos => ?_⟩
    obtain ⟨hsp, hlt⟩ := spot_none (hcell 0 (by omega)).1
    obtain ⟨ab, ao, asp⟩ := a
    obtain rfl : asp = none := hsp
    refine ⟨ab, ao, rfl, hlt, fun t ht => ?_⟩
    obtain ⟨e0, e1, g0, g1⟩ := hcell t (by omega)
    obtain ⟨z0, y0, _, wz0⟩ := DataW.trod_int Ybaf.underlying2 g0
    obtain ⟨z1, y1, _, wz1⟩ := DataW.trod_int Ybaf.underlying5 g1
    simp at y0 y1
    have bd := bounds_u8 wz1
    show 0 ≤ intOf (V1 t) ∧ intOf (V1 t) ≤ 255 ∧ W.cell? ⟨ab, ao + t * 2, none⟩ = some (.int .i64 (intOf (V0 t))) ∧ W.cell? ⟨ab, ao + t * 2 + 1, none⟩ = some (.int .u8 (intOf (V1 t)))
    rw [y0, add_plain] at e0
    rw [y1, add_plain] at e1
    rw [y0, y1]
    exact ⟨bd.1, bd.2, e0, e1⟩

set_option maxRecDepth 100000 in
theorem open_sums {H : Type} {enc : TypeId × Value → H} {W : World} {x : Option Addr} {len cap : Nat} {d : DataW H} {p : List MemPlace} (h : DataW.Trod enc Ybaf.prog W 0 (fun _ => true) true 23 (.slice x len cap) d p) :
    ∃ SS SC SP SN, IsSums W x len SS SC SP SN := by
  obtain ⟨fuel, hf⟩ := h
  rcases open_slice Ybaf.underlying23 hf with ⟨hcs, _⟩ | ⟨a, l, c, m, k, D, Pl, hcs, _, hl, _, hm, _, hx⟩
  · simp [Value.cells] at hcs
    obtain ⟨rfl, rfl, rfl⟩ := hcs
    exact ⟨fun _ => 0, fun _ => 0, fun _ => 0, fun _ => ByteArray.empty, fun h => absurd h (by omega)⟩
  · simp [Value.cells] at hcs
    obtain ⟨rfl, rfl, rfl⟩ := hcs
    have hlm : len ≤ m := by rw [hm]; simpa using hl
    have each : ∀ i, i < m → ∃ q : Int × Int × Int × ByteArray, 0 ≤ q.1 ∧ q.1 ≤ 255 ∧ 0 ≤ q.2.2.1 ∧ q.2.2.1 ≤ 255 ∧
        W.cell? (a.add (i * 4)) = some (.int .u8 q.1) ∧ W.cell? (a.add (i * 4 + 1)) = some (.int .i64 q.2.1) ∧ W.cell? (a.add (i * 4 + 2)) = some (.int .u8 q.2.2.1) ∧ W.cell? (a.add (i * 4 + 3)) = some (.string q.2.2.2) := by
      intro i hi
      obtain ⟨cs', h1, h2⟩ := hx i hi
      rw [cells32] at h1
      obtain ⟨_, hlen, hcell⟩ := World.cells?_some h1
      obtain ⟨xs, k', hk, hxy, _, hxl, hf⟩ := DataW.trod_struct Ybaf.underlying32 h2
      match cs', hlen, xs, hxl with
      | [v0, v1, v2, v3], _, [x0, x1, x2, x3], _ =>
        have g0 := hf 0 _ rfl
        have g1 := hf 1 _ rfl
        have g2 := hf 2 _ rfl
        have g3 := hf 3 _ rfl
        simp [cells5, cells2, cells9] at g0 g1 g2 g3
        obtain ⟨z0, y0, _, wz0⟩ := DataW.trod_int Ybaf.underlying5 g0
        obtain ⟨z1, y1, _, wz1⟩ := DataW.trod_int Ybaf.underlying2 g1
        obtain ⟨z2, y2, _, wz2⟩ := DataW.trod_int Ybaf.underlying5 g2
        obtain ⟨z3, y3, _, wz3⟩ := DataW.trod_string Ybaf.underlying9 g3
        simp at y0 y1 y2 y3
        subst y0 y1 y2 y3
        have e0 := hcell 0 (by omega)
        have e1 := hcell 1 (by omega)
        have e2 := hcell 2 (by omega)
        have e3 := hcell 3 (by omega)
        rw [add_add] at e0 e1 e2 e3
        have b0 := bounds_u8 wz0
        have b2 := bounds_u8 wz2
        exact ⟨(z0, z1, z2, z3), b0.1, b0.2, b2.1, b2.2, by simpa using e0, by simpa using e1, by simpa using e2, by simpa using e3⟩
    obtain ⟨q, hq⟩ := choose_lt each
    refine ⟨fun t => (q t).1, fun t => (q t).2.1, fun t => (q t).2.2.1, fun t => (q t).2.2.2, fun hpos => ?_⟩
    obtain ⟨hsp, hlt⟩ := spot_none (hq 0 (by omega)).2.2.2.2.1
    obtain ⟨ab, ao, asp⟩ := a
    obtain rfl : asp = none := hsp
    refine ⟨ab, ao, rfl, hlt, fun t ht => ?_⟩
    obtain ⟨k1, k2, k3, k4, e0, e1, e2, e3⟩ := hq t (by omega)
    rw [add_plain] at e0 e1 e2 e3
    exact ⟨k1, k2, k3, k4, e0, e1, e2, e3⟩

/-- What the walk wants, whatever the lengths. -/
theorem walk (F : Interp) (x1 : Option Addr) (len1 cap1 : Nat) (TC TP : Nat → Int) (x2 : Option Addr) (len2 cap2 : Nat) (SS SC SP : Nat → Int) (SN : Nat → ByteArray) (a0 : Addr) (s0 : ByteArray) (w : World) (hF : F.answers w.tape)
    (ht : IsTots w x1 len1 TC TP) (hsu : IsSums w x2 len2 SS SC SP SN) (hpow : Pows w) (hg : w.cell? ⟨0, 0, none⟩ = some (.iface 74 (.pointer (some a0)))) (hs : w.cell? a0 = some (.string s0)) :
    Calls Ybaf.prog 3 #[.slice x1 len1 cap1, .slice x2 len2 cap2] w fun e w' => e = .returned (.bool true) ∧ Below w.heap.size w w' := by
  by_cases h1 : 1024 < len1
  · exact walk_long1 x1 len1 cap1 x2 len2 cap2 w h1
  by_cases h2 : 1024 < len2
  · exact walk_long2 x1 len1 cap1 x2 len2 cap2 w (by omega) h2
  exact law_main F x1 len1 cap1 TC TP x2 len2 cap2 SS SC SP SN _ a0 s0 w hF (by omega) (by omega) rfl ht hsu hpow hg hs
end Go.Proofs.YbulkbdoqFmt
