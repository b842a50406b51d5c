/-
  THE PROOF OF 'Rows.LawS2731BSetGetSaid': the frame after the guide's shell for a law over slices; the ops' slice opened by 'open_slice_pairs'.
-/
import Derived.Test.YbulkbdnoRows
import Derived.WalkKit
import Derived.ProofKit
import Derived.OpenShut
import Derived.ShutString
import Derived.ChangeOld
import Derived.Below
import Derived.Deep.SlicePairs
import Derived.Test.YbulkbdnoWalk
namespace Go.Proofs.Ybulkbdno.lawS2731BSetGet
open Go.ChangeShapes Go.WideShapes Go.ChangeAt Go.RowKit Go.Deep
set_option linter.unusedVariables false

theorem own : ownKnob Yba.prog.godebug = none := by kernel_rfl
theorem laidOut : laidOutB Yba.prog = true := by kernel_rfl
theorem cells30 : Yba.prog.cellsOf 30 = 2 := by kernel_rfl
theorem cells28 : Yba.prog.cellsOf 28 = 1 := by kernel_rfl
theorem cells3 : Yba.prog.cellsOf 3 = 1 := by kernel_rfl

theorem walk (a0 a1 : Int) (x : Option Addr) (len cap : Nat) (I V : Nat → Int) (w : World) (w0 : (Lit.int .u8 a0).wf = true) (w1 : (Lit.int .u8 a1).wf = true) (hx : IsOps w x len I V) :
    Calls Yba.prog 3 #[.int .u8 a0, .int .u8 a1, .slice x len cap] w fun e w' => e = .returned (.bool true) ∧ Below w.heap.size w w' := by
  obtain ⟨b0, b1⟩ := bounds_u8 w0
  obtain ⟨c0, c1⟩ := bounds_u8 w1
  by_cases hl : 1024 < len
  · exact walk_long a0 a1 len cap x w hl
  · obtain ⟨p, rfl⟩ := Int.eq_ofNat_of_zero_le b0
    obtain ⟨q, rfl⟩ := Int.eq_ofNat_of_zero_le c0
    by_cases hn : p % 4 * 256 + q = 0
    · obtain rfl : q = 0 := by omega
      exact walk_zero p len cap x w (by omega) (by omega) (by omega)
    · exact walk_main p q (p % 4 * 256 + q) _ len cap x I V w (by omega) (by omega) (by omega) (by omega) (by omega) rfl (by omega) hx

theorem spot_none {w : World} {a : Addr} {v : Value} (h : w.cell? a = some v) : a.spot = none ∧ a.block < w.heap.size := by
  obtain ⟨e, n, hs, _, hsp⟩ := World.shape?_of_cell? h
  refine ⟨hsp, ?_⟩
  unfold World.shape? at hs
  cases hb : w.heap[a.block]? with
  | none => rw [hb] at hs; cases hs
  | some o => exact (Array.getElem?_eq_some_iff.1 hb).1

/-! ### THE ROW's STEP -/
set_option maxRecDepth 100000 in
theorem lifted (os : Os) (started : os.Started) (H : Type) (enc : TypeId × Value → H) :
    ReturnsInHanded {} Yba.checked os 3 .any (Rows.lawS2731BSetGetSpec.pre6 enc Yba.prog Yba.f3 Rows.lawS2731BSetGetRow.domain false) (Rows.lawS2731BSetGetSpec.post enc Yba.prog Yba.f3 false true false false) := by
  refine returnsInHanded_of_change (C := Yba.checked) own started (by kernel_rfl) Yba.func3
    (ChangeSpec.witness6 (enc := enc) (C := Yba.checked) false ⟨#[], #[.int .u8 0, .int .u8 0, .slice none 0 0], []⟩ 8 (by kernel_rfl) (by kernel_rfl) (by kernel_rfl) (by kernel_rfl)) ?_
  intro W base args ds gs before hval0 hW hcnd _
  have hval : ∀ (j : Nat) t v, Yba.f3.params[j]? = some t → args[j]? = some v → Value.okWide Yba.prog W .any base t v := hval0
  have hW' := hW
  obtain ⟨p, q, hA0, hV, rfl, hfz, hnd⟩ := hW
  have hA : DataW.TrodAll enc Yba.prog W 0 (fun _ => true) true Yba.f3.params.toList args.toList ds p := hA0
  rw [Yba.params3] at hA hval
  obtain ⟨v0, vs0, d0, ds0, p0, q0, hargs, rfl, rfl, h0, r0⟩ := trodAll_cons hA
  obtain ⟨v1, vs1, d1, ds1, p1, q1, rfl, rfl, rfl, h1, r1⟩ := trodAll_cons r0
  obtain ⟨v2, vs2, d2, ds2, p2, q2, rfl, rfl, rfl, h2, r2⟩ := trodAll_cons r1
  obtain ⟨rfl, rfl, rfl⟩ := trodAll_nil r2
  obtain rfl : args = #[v0, v1, v2] := by cases args; simp_all
  obtain ⟨rfl, rfl⟩ := trodVars_none hV
  obtain ⟨a0, rfl, rfl, rfl, w0⟩ := open_int Yba.underlying5 (hval 0 5 v0 rfl rfl) h0
  obtain ⟨a1, rfl, rfl, rfl, w1⟩ := open_int Yba.underlying5 (hval 1 5 v1 rfl rfl) h1
  obtain ⟨a2, len2, cap2, rfl⟩ := okWide_slice Yba.underlying22 (hval 2 22 v2 rfl rfl)
  have k2 := h2
  have lt2 : ∀ x ∈ p2, x.block < W.heap.size := by obtain ⟨m, hm⟩ := k2; exact DataW.trod_lt m _ _ _ hm
  obtain ⟨I, V, w2⟩ : ∃ I V, IsOps W a2 len2 I V := by
    obtain ⟨fuel, hf⟩ := h2
    rcases open_slice_pairs Yba.underlying22 Yba.underlying30 cells30 rfl rfl cells28 cells3 hf with ⟨hcs, _⟩ | ⟨a, l, c, m, k, V0, V1, D0, D1, P0, P1, hcs, _, hl, _, hm, _, hcell⟩
    · simp [Value.cells] at hcs
      obtain ⟨rfl, rfl, rfl⟩ := hcs
      exact ⟨fun _ => 0, fun _ => 0, fun h => absurd h (by omega)⟩
    · simp [Value.cells] at hcs
      obtain ⟨rfl, rfl, rfl⟩ := hcs
      have hlm : len2 ≤ m := by rw [hm]; simpa using hl
      refine ⟨fun t => intOf (V0 t), fun t => intOf (V1 t), fun hpos => ?_⟩
      obtain ⟨hsp, hlt⟩ := spot_none (hcell 0 (by omega)).1
      obtain ⟨ab, ao, asp⟩ := a
      obtain rfl : asp = none := hsp
      refine ⟨ab, ao, rfl, hlt, fun t ht => ?_⟩
      obtain ⟨e0, e1, g0, g1⟩ := hcell t (by omega)
      obtain ⟨z0, y0, _, wz0⟩ := DataW.trod_int Yba.underlying28 g0
      obtain ⟨z1, y1, _, wz1⟩ := DataW.trod_int Yba.underlying3 g1
      simp at y0 y1
      have bd := bounds_u16 wz0
      show 0 ≤ intOf (V0 t) ∧ intOf (V0 t) ≤ 65535 ∧ W.cell? ⟨ab, ao + t * 2, none⟩ = some (.int .u16 (intOf (V0 t))) ∧ W.cell? ⟨ab, ao + t * 2 + 1, none⟩ = some (.int .i64 (intOf (V1 t)))
      rw [y0, add_plain] at e0
      rw [y1, add_plain] at e1
      rw [y0, y1]
      exact ⟨bd.1, bd.2, e0, e1⟩
  clear hA0 hval0
  refine (walk a0 a1 a2 len2 cap2 I V W w0 w1 w2).mono fun e W' ⟨he, bel⟩ => ?_
  subst he
  exact ⟨_, rfl, _, _, _, [], _, [], hW', trodAll_mk1 (shut_bool Yba.underlying4 _), (trodAll_cons_mk (shut_int Yba.underlying5 w0) (trodAll_cons_mk (shut_int Yba.underlying5 w1) (trodAll_cons_mk (Below.trod laidOut (by kernel_rfl) (of_decide_eq_true (by kernel_rfl)) k2 bel lt2) trodAll_mk0))), rfl, bel.frame _, fun h => by cases h⟩

theorem over : Rows.lawS2731BSetGetRow.holds Yba.pinned (OpenSpec.ofChange Rows.lawS2731BSetGetSpec) :=
  OpenClaim.holds_of_wide 3 Yba.f3 rfl rfl rfl rfl rfl rfl rfl ⟨rfl, rfl, rfl, rfl, rfl⟩ rfl rfl rfl rfl rfl (by kernel_rfl) Yba.func3 (by kernel_rfl)
    (of_decide_eq_true (by kernel_rfl)) (by unfold Func.isWrapper; first | (rw [if_pos (by decide +kernel)]; kernel_rfl) | (rw [if_neg (by decide +kernel)]; exact ⟨rfl, rfl⟩))
    (fun os started H enc _ => lifted os started H enc)

/-- THE STATEMENT -/
theorem proved : Rows.LawS2731BSetGetSaid := over
#print axioms proved
end Go.Proofs.Ybulkbdno.lawS2731BSetGet
