/-
  No cell of these rows narrows 'for every input' (looked for: loops, veiled, ifaces, maps, wideKeys, modest, calm, conditions, laid).
  DERIVED. THE GIVEN ROWS OF THIS SEAT. 2 by the template 'for every input the law returns true; each argument reads behind the call as it read before'; 0 by the template 'total and deterministic' (their statements: YbulkbdnaTotals.lean).
  GIVEN WITH THE SEED: the statements are not yours to turn. If you find one false, say at which input.
  Laid BY PROGRAM, IN A SANDBOX (cutbox-rows.mjs): the forced cells as the released guide's own fill.sh prints them over the translation 0e52e9d1ce28e08f… (all of the seat's roots in one cut). By AI agents, Wed Nov 11 2026. No macro, syntax, notation, axiom, sorry.
-/
import Derived.Test.YbulkbdnaChecked
import GoSem.Claim
import GoSem.ClaimJoined
import GoSem.ClaimMapViews
import Derived.JoinedTies
import Derived.KernelRfl
namespace Go.Proofs.Ybulkbdna
/- THE CELL 'sum', in the pinned program and in every row, IS THE sha256 OF THE DUMP (.gsa) THAT YbulkbdnaProg.lean LOADS. Nothing in Lean hashes anything: it is a label: what it is worth is what the hold of that sum in a sandbox is worth. -/
noncomputable def Yba.pinned : Pinned := { name := "ybulkbdna", sum := "0e52e9d1ce28e08f1d5a371770f5ac23a6ff46fc5e0b5aa8fd629fb220a6b0c5", checked := Yba.checked }
namespace Rows
def none {H : Type} : Left H := { results := [], args := [] }

/-- 'noise.LawS2730CResidue': WHATEVER THE INPUT: true; the input reads as it did. -/
def lawS2730CResidueSpec : ChangeSpec := { name := "lawS2730CResidue", fn := fun _ => fun
  | [d1, d2] => { results := [.lit (.bool true)], args := [d1, d2] }
  | _ => none }
def lawS2730CResidueRow : OpenClaim := { program := "ybulkbdna", sum := "0e52e9d1ce28e08f1d5a371770f5ac23a6ff46fc5e0b5aa8fd629fb220a6b0c5", func := "example.com/sums-under-noise/sums-under-noise/noise.LawS2730CResidue", spec := "lawS2730CResidue", inPlace := ["math.Float64bits", "math.Float64frombits"], apart := false }
def LawS2730CResidueSaid : Prop := lawS2730CResidueRow.holds Yba.pinned (OpenSpec.ofChange lawS2730CResidueSpec)

/-- ITS FALSE NEIGHBOUR: 'it returns false'. Refute it at one input. -/
def lawS2730CResidueWrong : ChangeSpec := { name := "lawS2730CResidue", fn := fun _ => fun
  | [d1, d2] => { results := [.lit (.bool false)], args := [d1, d2] }
  | _ => none }
def LawS2730CResidueWrongFalsely : Prop := lawS2730CResidueRow.holds Yba.pinned (OpenSpec.ofChange lawS2730CResidueWrong)

/-- 'noise.LawS2730CShift': WHATEVER THE INPUT: true; the input reads as it did. -/
def lawS2730CShiftSpec : ChangeSpec := { name := "lawS2730CShift", fn := fun _ => fun
  | [d1, d2, d3] => { results := [.lit (.bool true)], args := [d1, d2, d3] }
  | _ => none }
def lawS2730CShiftRow : OpenClaim := { program := "ybulkbdna", sum := "0e52e9d1ce28e08f1d5a371770f5ac23a6ff46fc5e0b5aa8fd629fb220a6b0c5", func := "example.com/sums-under-noise/sums-under-noise/noise.LawS2730CShift", spec := "lawS2730CShift", inPlace := ["math.Float64bits", "math.Float64frombits"], apart := false }
def LawS2730CShiftSaid : Prop := lawS2730CShiftRow.holds Yba.pinned (OpenSpec.ofChange lawS2730CShiftSpec)

/-- ITS FALSE NEIGHBOUR: 'it returns false'. Refute it at one input. -/
def lawS2730CShiftWrong : ChangeSpec := { name := "lawS2730CShift", fn := fun _ => fun
  | [d1, d2, d3] => { results := [.lit (.bool false)], args := [d1, d2, d3] }
  | _ => none }
def LawS2730CShiftWrongFalsely : Prop := lawS2730CShiftRow.holds Yba.pinned (OpenSpec.ofChange lawS2730CShiftWrong)

end Rows
end Go.Proofs.Ybulkbdna
