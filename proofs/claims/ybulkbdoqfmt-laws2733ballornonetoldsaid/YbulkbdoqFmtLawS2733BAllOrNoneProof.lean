/-
  THE PROOF OF 'Rows.LawS2733BAllOrNoneToldSaid': the row's step, and the told and tied card.
-/
import Derived.Test.YbulkbdoqFmtOpen
import Derived.SevenTiedAt
namespace Go.Proofs.YbulkbdoqFmt.lawS2733BAllOrNone
open Go.ChangeShapes Go.WideShapes Go.ChangeAt Go.RowKit Go.Deep
open Go.Extern.Stop Go.Stop Go.Extern
set_option linter.unusedVariables false

theorem own : ownKnob Ybaf.prog.godebug = none := by kernel_rfl
theorem laidOut : laidOutB Ybaf.prog = true := by kernel_rfl
theorem stops : Ybaf.pinned.checked.prog.stops = ["fmt.Sprintf", "fmt.errorf"] := by kernel_rfl
theorem stopKnobs : Ybaf.pinned.checked.prog.stopKnobs = [] := by kernel_rfl
theorem quiet (os : Os) : Stop.quiet Ybaf.pinned.checked.prog os := by
  intro k hk
  rw [stopKnobs] at hk
  cases hk

/-- The two variables' names, as the row lists them. -/
abbrev nmE : String := Rows.lawS2733BAllOrNoneSpec.vars.getD 0 ""
abbrev nmP : String := Rows.lawS2733BAllOrNoneSpec.vars.getD 1 ""
theorem gE : Ybaf.prog.globalNamed nmE = some 0 := by kernel_rfl
theorem gP : Ybaf.prog.globalNamed nmP = some 1 := by kernel_rfl
theorem gEType : (Ybaf.prog.globals[0]?).map (·.type) = some 37 := by kernel_rfl
theorem gPType : (Ybaf.prog.globals[1]?).map (·.type) = some 59 := by kernel_rfl
theorem cells48 : Ybaf.prog.cellsOf 48 = 1 := by kernel_rfl
theorem cells59 : Ybaf.prog.cellsOf 59 = 20 := by kernel_rfl
/-- The dynamic type's name and the text, as the row lists them. -/
def typeOf : String := match (Rows.laid_example_com_zhaomu_zhaomu_decimal_ErrRange : DataW Unit) with
  | .iface n _ => n
  | _ => ""
def textOf : List UInt8 := match (Rows.laid_example_com_zhaomu_zhaomu_decimal_ErrRange : DataW Unit) with
  | .iface _ (.ptr (.agg [.lit (.string b)])) => b
  | _ => []
theorem row74 (u : TypeId) (h : Ybaf.prog.typeName? 3 u = some typeOf) : u = 74 :=
  typeName_ptr_named (nm := "errors.errorString") (by kernel_rfl) (by kernel_rfl) (by decide) u (h.trans (by kernel_rfl))

def pows : List Int := (List.range 20).map fun i => (10 : Int) ^ i
theorem laid_eq : Rows.lawS2733BAllOrNoneRow.laid = [(nmE, .iface typeOf (.ptr (.agg [.lit (.string textOf)]))), (nmP, Lib.tabData .u64 pows)] := by kernel_rfl

def low (P : Program) : Nat := (World.holding P default ⟨#[], #[], []⟩).heap.size
def laidWorld (P : Program) (os : Os) : World :=
  let w0 := World.holding P os ⟨#[.cells #[.string ⟨textOf.toArray⟩] 76], #[], []⟩
  { w0 with heap := (w0.heap.modify 0 fun
      | .cells _ t frozen => .cells #[.iface 74 (.pointer (some ⟨low P, 0, none⟩))] t frozen
      | o => o).modify 1 fun
      | .cells _ t frozen => .cells (pows.map (Value.int .u64)).toArray t frozen
      | o => o }
theorem laid_met (os : Os) (args : Array Value) : laidMet Ybaf.prog Rows.lawS2733BAllOrNoneRow.laid ((laidWorld Ybaf.prog os).forCall (fun _ _ => 0) ⟨#[], args, []⟩).memory :=
  laidMet_of_run' 8 (by kernel_rfl) (by kernel_rfl)

set_option maxRecDepth 100000 in
theorem lifted (os : Os) (started : os.Started) (H : Type) (enc : TypeId × Value → H) :
    ReturnsInTold none {} Ybaf.checked os 3 .any Input.okWide ((OpenSpec.ofChange Rows.lawS2733BAllOrNoneSpec).preRow enc Ybaf.prog Ybaf.f3 Rows.lawS2733BAllOrNoneRow.domain false Rows.lawS2733BAllOrNoneRow.laid)
      (fun F => ((OpenSpec.ofChange Rows.lawS2733BAllOrNoneSpec).at F).post enc Ybaf.prog Ybaf.f3 false true false false) (aloneAtReturn Ybaf.prog) nothingAlways := by
  refine returnsInTold_of_row (C := Ybaf.checked) (s := OpenSpec.ofChange Rows.lawS2733BAllOrNoneSpec) (by kernel_rfl) own started (by kernel_rfl) Ybaf.func3
    (OpenSpec.witness_stopped_at (enc := enc) (C := Ybaf.checked) false (laidWorld Ybaf.prog os) #[.slice none 0 0, .slice none 0 0] rfl (by kernel_rfl) (by kernel_rfl) (by kernel_rfl)
      (OpenSpec.preRow_of_B rfl 8 (by kernel_rfl) (by kernel_rfl) (laid_met os _))) ?_
  intro F W base args ds gs before _ hF hval0 hW hcnd _ _ hL _
  have hval : ∀ (j : Nat) t v, Ybaf.f3.params[j]? = some t → args[j]? = some v → Value.okWide Ybaf.prog W .any base t v := hval0
  have hW' := hW
  obtain ⟨p, q, hA0, hV0, rfl, hfz, hnd⟩ := hW
  have hA : DataW.TrodAll enc Ybaf.prog W 0 (fun _ => true) true Ybaf.f3.params.toList args.toList ds p := hA0
  have hV : DataW.TrodVars enc Ybaf.prog W (fun _ => true) Rows.lawS2733BAllOrNoneSpec.vars gs q := hV0
  rw [Ybaf.params3] at hA hval
  obtain ⟨v0, vs0, d0, ds0, p0, q0, hargs, rfl, rfl, h0, r0⟩ := trodAll_cons hA
  obtain ⟨v1, vs1, d1, ds1, p1, q1, rfl, rfl, rfl, h1, r1⟩ := trodAll_cons r0
  obtain ⟨rfl, rfl, rfl⟩ := trodAll_nil r1
  obtain rfl : args = #[v0, v1] := by cases args; simp_all
  obtain ⟨x1, len1, cap1, rfl⟩ := okWide_slice Ybaf.underlying22 (hval 0 22 v0 rfl rfl)
  obtain ⟨x2, len2, cap2, rfl⟩ := okWide_slice Ybaf.underlying23 (hval 1 23 v1 rfl rfl)
  have lt0 : ∀ x ∈ p0, x.block < W.heap.size := by obtain ⟨m, hm⟩ := h0; exact DataW.trod_lt m _ _ _ hm
  have lt1 : ∀ x ∈ p1, x.block < W.heap.size := by obtain ⟨m, hm⟩ := h1; exact DataW.trod_lt m _ _ _ hm
  obtain ⟨TC, TP, ht⟩ := open_tots h0
  obtain ⟨SS, SC, SP, SN, hs⟩ := open_sums h1
  have hL1 : laidMet Ybaf.prog Rows.lawS2733BAllOrNoneRow.laid W := hL
  rw [laid_eq] at hL1
  obtain ⟨a0, s0, hv0, hc0, _, _⟩ := laid_sentinel hL1 gE gEType Ybaf.underlying37 row74 Ybaf.underlying74 Ybaf.underlying76 rfl rfl Ybaf.underlying9 cells76 cells9
  have hT := Lib.tabIs_of_head gP gPType Ybaf.underlying59 Ybaf.underlying48 cells48 cells59 hL1.tail
  have hcell : ∀ k, k < 20 → W.cell? ⟨1, k, none⟩ = some (.int .u64 (P10 k)) := by
    intro k hk
    rw [hT.cell gP k (by simpa [pows] using hk)]
    simp [pows, P10, List.getD, hk]
  have hpow : Pows W := ⟨World.block_lt_of_cell? _ _ (hcell 0 (by omega)), hcell⟩
  have hg : W.cell? ⟨0, 0, none⟩ = some (.iface 74 (.pointer (some a0))) := by simpa using World.var?_cell gE hv0 0
  obtain ⟨g1, g2, rfl⟩ : ∃ g1 g2, gs = [g1, g2] := by
    obtain ⟨_, _, _, _, d0, _, _, _, _, _, d1, _, e, _⟩ := trodVars_two hV
    exact ⟨_, _, e⟩
  clear hA0 hval0 hV0
  refine (walk F.told x1 len1 cap1 TC TP x2 len2 cap2 SS SC SP SN a0 s0 W hF ht hs hpow hg hc0).mono fun e W' ⟨he, bel⟩ => ?_
  subst he
  exact ⟨_, rfl, _, _, _, [], _, q, hW', trodAll_mk1 (shut_bool Ybaf.underlying4 _), trodAll_cons_mk (Below.trod laidOut (by kernel_rfl) (of_decide_eq_true (by kernel_rfl)) h0 bel lt0) (trodAll_cons_mk (Below.trod laidOut (by kernel_rfl) (of_decide_eq_true (by kernel_rfl)) h1 bel lt1) trodAll_mk0),
    Below.trodVars laidOut bel (by kernel_rfl) hV, bel.frame _, fun h => by cases h⟩

theorem proved : Rows.LawS2733BAllOrNoneToldSaid :=
  Claim7.holds_of_told_tied_any_at .later 3 Ybaf.f3 "fmt.Sprintf" ["fmt.errorf"] [] _ _ _ _ _ (by kernel_rfl) rfl rfl rfl laidOut (by kernel_rfl) rfl ⟨rfl, rfl, rfl, rfl, rfl, rfl, rfl⟩ rfl rfl (by kernel_rfl) (by kernel_rfl) Ybaf.func3 (by kernel_rfl)
    (of_decide_eq_true (by kernel_rfl)) (of_decide_eq_true (by kernel_rfl)) stops.symm rfl stopKnobs.symm (by kernel_rfl)
    (by kernel_rfl) (by kernel_rfl) (by kernel_rfl) (by kernel_rfl) (by kernel_rfl) (by kernel_rfl) (by kernel_rfl) (by kernel_rfl) (by kernel_rfl) rfl (by kernel_rfl) rfl rfl
    rfl rfl
    rfl (by kernel_rfl) (by kernel_rfl) (by kernel_rfl) (by decide) (by kernel_rfl) lawS2733BAllOrNone_row_tie
    (OpenClaim.moreEntering_of (by kernel_rfl) (by kernel_rfl) (by kernel_rfl) (by kernel_rfl) (by kernel_rfl) (by kernel_rfl) (by kernel_rfl) (by kernel_rfl) (by kernel_rfl) (by kernel_rfl))
    ⟨_, WideRow.started_initial, quiet _⟩
    (fun os started _ H enc _ => lifted os started H enc)
#print axioms proved
end Go.Proofs.YbulkbdoqFmt.lawS2733BAllOrNone
