/-
  THE PROOF OF 'Rows.LawS2730CResidueSaid': the frame is the guide's own shell; the walk is ours, over the contracts of YbulkbdnaMod.
-/
import Derived.Test.YbulkbdnaRows
import Derived.WalkKit
import Derived.ProofKit
import Derived.OpenShut
import Derived.ShutString
import Derived.Test.YbulkbdnaMod
namespace Go.Proofs.Ybulkbdna.lawS2730CResidue
open Go.ChangeShapes Go.WideShapes Go.ChangeAt Go.RowKit
open Go.ChangeMaps (open_string shut_string)
set_option linter.unusedVariables false      -- a walk need not use every 'w<i>' (that an integer argument fits its kind)

theorem own : ownKnob Yba.prog.godebug = none := by kernel_rfl

/-! ### STEP 1: THE WALK: the Go text returns true. 'Grown w w'': the world has at most new blocks (Derived/RowKit3.lean). Part the cases AHEAD of 'go_enter' where a test parts the walk; take each callee by a contract of your own. -/
set_option maxHeartbeats 400000 in
theorem walk_out (a0 : Int) (a1 : Int) (w : World) (hc : a0 < -1099511627776 ∨ 1099511627776 < a0) :
    Calls Yba.prog 3 #[.int .i64 a0, .int .u16 a1] w fun e w' => e = .returned (.bool true) ∧ w' = w := by
  rcases hc with h | h
  · go_enter Yba.func3, Yba.ntmps3
    go_wp2
    go_ret
    exact ⟨rfl, rfl⟩
  · have h' : ¬ a0 < -1099511627776 := by omega
    go_enter Yba.func3, Yba.ntmps3
    go_wp2
    go_ret
    exact ⟨rfl, rfl⟩

set_option maxHeartbeats 400000 in
theorem walk_pos (K : Nat) (a1 : Int) (w : World) (h0 : 0 ≤ a1) (h1 : a1 ≤ 65535) (hK : K ≤ 1099511627776) :
    Calls Yba.prog 3 #[.int .i64 K, .int .u16 a1] w fun e w' => e = .returned (.bool true) ∧ w' = w := by
  obtain ⟨n, rfl⟩ := Int.eq_ofNat_of_zero_le h0
  have hf := ofInt_pos K (by omega)
  have hcall : ∀ w, Calls Yba.prog 5 #[.float .f64 (Fl.FB K), .int .i64 ((n : Int) + 1)] w fun e w' => e = .returned (.int .i64 (K % (n + 1) : Nat)) ∧ w' = w := by
    intro w
    have := nmod_pos K (n + 1) w (by omega) (by omega) (by omega)
    exact this
  have Hc : Hid (∀ w, Calls Yba.prog 5 #[.float .f64 (Fl.FB K), .int .i64 ((n : Int) + 1)] w fun e w' => e = .returned (.int .i64 (K % (n + 1) : Nat)) ∧ w' = w) := hcall
  clear hcall
  have hx : ¬ ((K : Int) < -1099511627776) := by omega
  have hy : ¬ ((1099511627776 : Int) < K) := by omega
  go_enter Yba.func3, Yba.ntmps3
  go_wp2_with (go_at_call 5; refine (Hc.out _).mono ?_; rintro e w' ⟨rfl, rfl⟩)
  go_ret
  exact ⟨rfl, rfl⟩

theorem tmod_neg (K m : Nat) : (-(K : Int)).tmod (m : Int) = -((K % m : Nat) : Int) := by
  rw [Int.neg_tmod, Int.tmod_eq_emod_of_nonneg (by omega)]
  rfl

set_option maxHeartbeats 400000 in
theorem walk_neg0 (K : Nat) (a1 : Int) (w : World) (h0 : 0 ≤ a1) (h1 : a1 ≤ 65535) (K0 : K ≠ 0) (hK : K ≤ 1099511627776) (hr : K % (a1.toNat + 1) = 0) :
    Calls Yba.prog 3 #[.int .i64 (-(K : Int)), .int .u16 a1] w fun e w' => e = .returned (.bool true) ∧ w' = w := by
  obtain ⟨n, rfl⟩ := Int.eq_ofNat_of_zero_le h0
  rw [Int.toNat_natCast] at hr
  have hf := ofInt_neg K K0 (by omega)
  have hcall : ∀ w, Calls Yba.prog 5 #[.float .f64 (Fl.NB K), .int .i64 ((n : Int) + 1)] w fun e w' => e = .returned (.int .i64 0) ∧ w' = w := by
    intro w
    have := nmod_neg0 K (n + 1) w K0 (by omega) (by omega) (by omega) hr
    exact this
  have Hc : Hid (∀ w, Calls Yba.prog 5 #[.float .f64 (Fl.NB K), .int .i64 ((n : Int) + 1)] w fun e w' => e = .returned (.int .i64 0) ∧ w' = w) := hcall
  have ht : (-(K : Int)).tmod ((n : Int) + 1) = 0 := by
    have e := tmod_neg K (n + 1)
    rw [hr] at e
    exact e
  clear hcall hr
  have hx : ¬ (-(K : Int) < -1099511627776) := by omega
  have hy : ¬ ((1099511627776 : Int) < -(K : Int)) := by omega
  go_enter Yba.func3, Yba.ntmps3
  go_wp2_with (go_at_call 5; refine (Hc.out _).mono ?_; rintro e w' ⟨rfl, rfl⟩)
  go_ret
  exact ⟨rfl, rfl⟩

set_option maxHeartbeats 400000 in
theorem walk_neg (K r : Nat) (a1 : Int) (w : World) (h0 : 0 ≤ a1) (h1 : a1 ≤ 65535) (K0 : K ≠ 0) (hK : K ≤ 1099511627776) (hr : K % (a1.toNat + 1) = r) (r0 : r ≠ 0) :
    Calls Yba.prog 3 #[.int .i64 (-(K : Int)), .int .u16 a1] w fun e w' => e = .returned (.bool true) ∧ w' = w := by
  obtain ⟨n, rfl⟩ := Int.eq_ofNat_of_zero_le h0
  rw [Int.toNat_natCast] at hr
  have hf := ofInt_neg K K0 (by omega)
  have hrn : r < n + 1 := by rw [← hr]; exact Nat.mod_lt _ (by omega)
  have hcall : ∀ w, Calls Yba.prog 5 #[.float .f64 (Fl.NB K), .int .i64 ((n : Int) + 1)] w fun e w' => e = .returned (.int .i64 (n + 1 - r : Nat)) ∧ w' = w := by
    intro w
    have := nmod_neg K (n + 1) r w K0 (by omega) (by omega) (by omega) hr r0 hrn
    exact this
  have Hc : Hid (∀ w, Calls Yba.prog 5 #[.float .f64 (Fl.NB K), .int .i64 ((n : Int) + 1)] w fun e w' => e = .returned (.int .i64 (n + 1 - r : Nat)) ∧ w' = w) := hcall
  have ht : (-(K : Int)).tmod ((n : Int) + 1) = -(r : Int) := by
    have e := tmod_neg K (n + 1)
    rw [hr] at e
    exact e
  clear hcall hr
  have hx : ¬ (-(K : Int) < -1099511627776) := by omega
  have hy : ¬ ((1099511627776 : Int) < -(K : Int)) := by omega
  have hz : (((n + 1 - r : Nat) : Int) == -(r : Int) + ((n : Int) + 1)) = true := by rw [beq_iff_eq]; omega
  go_enter Yba.func3, Yba.ntmps3
  go_wp2_with (go_at_call 5; refine (Hc.out _).mono ?_; rintro e w' ⟨rfl, rfl⟩)
  go_ret
  exact ⟨rfl, rfl⟩

theorem walk (a0 : Int) (a1 : Int) (w0 : (Lit.int .i64 a0).wf = true) (w1 : (Lit.int .u16 a1).wf = true) (w : World) :
    Calls Yba.prog 3 #[.int .i64 a0, .int .u16 a1] w fun e w' => e = .returned (.bool true) ∧ Grown w w' := by
  obtain ⟨b0, b1⟩ := bounds_u16 w1
  have fin : Calls Yba.prog 3 #[.int .i64 a0, .int .u16 a1] w fun e w' => e = .returned (.bool true) ∧ w' = w := by
    by_cases hc : a0 < -1099511627776 ∨ 1099511627776 < a0
    · exact walk_out a0 a1 w hc
    · by_cases hp : 0 ≤ a0
      · obtain ⟨K, rfl⟩ := Int.eq_ofNat_of_zero_le hp
        exact walk_pos K a1 w b0 b1 (by omega)
      · obtain ⟨K, rfl⟩ : ∃ K : Nat, a0 = -(K : Int) := ⟨a0.natAbs, by omega⟩
        by_cases hr : K % (a1.toNat + 1) = 0
        · exact walk_neg0 K a1 w b0 b1 (by omega) (by omega) hr
        · exact walk_neg K _ a1 w b0 b1 (by omega) (by omega) rfl hr
  exact fin.mono fun e w' ⟨he, hw⟩ => ⟨he, by rw [hw]; exact Grown.refl _⟩

/-! ### THE ROW's STEP: WRITTEN OUT: LEAVE IT -/
set_option maxRecDepth 100000 in
theorem lifted (os : Os) (started : os.Started) (H : Type) (enc : TypeId × Value → H) :
    ReturnsInHanded {} Yba.checked os 3 .any (Rows.lawS2730CResidueSpec.pre6 enc Yba.prog Yba.f3 Rows.lawS2730CResidueRow.domain false) (Rows.lawS2730CResidueSpec.post enc Yba.prog Yba.f3 false true false false) := by
  refine returnsInHanded_of_change (C := Yba.checked) own started (by kernel_rfl) Yba.func3
    (ChangeSpec.witness6 (enc := enc) (C := Yba.checked) false ⟨#[], #[.int .i64 0, .int .u16 0], []⟩ 8 (by kernel_rfl) (by kernel_rfl) (by kernel_rfl) (by kernel_rfl)) ?_
  intro W base args ds gs before hval0 hW hcnd _
  have hval : ∀ (j : Nat) t v, Yba.f3.params[j]? = some t → args[j]? = some v → Value.okWide Yba.prog W .any base t v := hval0
  have hW' := hW
  obtain ⟨p, q, hA0, hV, rfl, hfz, hnd⟩ := hW
  have hA : DataW.TrodAll enc Yba.prog W 0 (fun _ => true) true Yba.f3.params.toList args.toList ds p := hA0
  rw [Yba.params3] at hA hval
  obtain ⟨v0, vs0, d0, ds0, p0, q0, hargs, rfl, rfl, h0, r0⟩ := trodAll_cons hA
  obtain ⟨v1, vs1, d1, ds1, p1, q1, rfl, rfl, rfl, h1, r1⟩ := trodAll_cons r0
  obtain ⟨rfl, rfl, rfl⟩ := trodAll_nil r1
  obtain rfl : args = #[v0, v1] := by cases args; simp_all
  obtain ⟨rfl, rfl⟩ := trodVars_none hV
  obtain ⟨a0, rfl, rfl, rfl, w0⟩ := open_int Yba.underlying2 (hval 0 2 v0 rfl rfl) h0
  obtain ⟨a1, rfl, rfl, rfl, w1⟩ := open_int Yba.underlying22 (hval 1 22 v1 rfl rfl) h1
  clear hA0 hval0
  simp only [List.append_nil] at hW'
  refine (walk a0 a1 w0 w1 W).mono fun e W' ⟨he, hg⟩ => ?_
  subst he
  exact ⟨_, rfl, post_of_same (pa := []) (pv := []) hW' (fun _ _ _ => (trodAll_cons_mk (shut_bool Yba.underlying4 _) trodAll_mk0)) (fun sp _ => (trodAll_cons_mk (shut_int Yba.underlying2 w0) (trodAll_cons_mk (shut_int Yba.underlying22 w1) trodAll_mk0))) (fun _ _ => rfl) rfl
    (hg.frame _) hg.2.1 (ok_one (by kernel_rfl) rfl (okWide_bool_mk Yba.underlying4 _))⟩

theorem over : Rows.lawS2730CResidueRow.holds Yba.pinned (OpenSpec.ofChange Rows.lawS2730CResidueSpec) :=
  OpenClaim.holds_of_wide 3 Yba.f3 rfl rfl rfl rfl rfl rfl rfl ⟨rfl, rfl, rfl, rfl, rfl⟩ rfl rfl rfl rfl rfl (by kernel_rfl) Yba.func3 (by kernel_rfl)
    (of_decide_eq_true (by kernel_rfl)) (by unfold Func.isWrapper; first | (rw [if_pos (by decide +kernel)]; kernel_rfl) | (rw [if_neg (by decide +kernel)]; exact ⟨rfl, rfl⟩))
    (fun os started H enc _ => lifted os started H enc)

/-- ████ THE STATEMENT ████ -/
theorem proved : Rows.LawS2730CResidueSaid :=
  over
#print axioms proved
end Go.Proofs.Ybulkbdna.lawS2730CResidue
