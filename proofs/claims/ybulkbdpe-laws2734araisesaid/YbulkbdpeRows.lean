/-
  No cell of these rows narrows 'for every input' (looked for: loops, veiled, ifaces, maps, wideKeys, modest, calm, conditions, laid).
  DERIVED. THE GIVEN ROWS OF THIS SEAT. 2 by the template 'for every input the law returns true; each argument reads behind the call as it read before'; 0 by the template 'total and deterministic' (their statements: YbulkbdpeTotals.lean).
  GIVEN WITH THE SEED: the statements are not yours to turn. If you find one false, say at which input.
  Laid BY PROGRAM, IN A SANDBOX (cutbox-rows.mjs): the forced cells as the released guide's own fill.sh prints them over the translation 9c9bf0865f1a7a0c… (all of the seat's roots in one cut). By AI agents, Wed Nov 11 2026. No macro, syntax, notation, axiom, sorry.
-/
import Derived.Test.YbulkbdpeChecked
import GoSem.Claim
import GoSem.ClaimJoined
import GoSem.ClaimMapViews
import Derived.JoinedTies
import Derived.KernelRfl
namespace Go.Proofs.Ybulkbdpe
/- THE CELL 'sum', in the pinned program and in every row, IS THE sha256 OF THE DUMP (.gsa) THAT YbulkbdpeProg.lean LOADS. Nothing in Lean hashes anything: it is a label: what it is worth is what the hold of that sum in a sandbox is worth. -/
noncomputable def Yba.pinned : Pinned := { name := "ybulkbdpe", sum := "9c9bf0865f1a7a0ce7019c9e0d498c9bc2c211ca64d34bee196cf5d93fbe7628", checked := Yba.checked }
namespace Rows
def none {H : Type} : Left H := { results := [], args := [] }

/-- 'collector.LawS2734AModel': WHATEVER THE INPUT: true; the input reads as it did. -/
def lawS2734AModelSpec : ChangeSpec := { name := "lawS2734AModel", fn := fun _ => fun
  | [d1, d2, d3, d4, d5] => { results := [.lit (.bool true)], args := [d1, d2, d3, d4, d5] }
  | _ => none }
def lawS2734AModelRow : OpenClaim := { program := "ybulkbdpe", sum := "9c9bf0865f1a7a0ce7019c9e0d498c9bc2c211ca64d34bee196cf5d93fbe7628", func := "example.com/ownersweep/ownersweep/internal/collector.LawS2734AModel", spec := "lawS2734AModel", unfollowed := true, recurses := true, apart := false }
def LawS2734AModelSaid : Prop := lawS2734AModelRow.holds Yba.pinned (OpenSpec.ofChange lawS2734AModelSpec)

/-- ITS FALSE NEIGHBOUR: 'it returns false'. Refute it at one input. -/
def lawS2734AModelWrong : ChangeSpec := { name := "lawS2734AModel", fn := fun _ => fun
  | [d1, d2, d3, d4, d5] => { results := [.lit (.bool false)], args := [d1, d2, d3, d4, d5] }
  | _ => none }
def LawS2734AModelWrongFalsely : Prop := lawS2734AModelRow.holds Yba.pinned (OpenSpec.ofChange lawS2734AModelWrong)

/-- 'collector.LawS2734ARaise': WHATEVER THE INPUT: true; the input reads as it did. -/
def lawS2734ARaiseSpec : ChangeSpec := { name := "lawS2734ARaise", fn := fun _ => fun
  | [d1, d2, d3, d4, d5, d6] => { results := [.lit (.bool true)], args := [d1, d2, d3, d4, d5, d6] }
  | _ => none }
def lawS2734ARaiseRow : OpenClaim := { program := "ybulkbdpe", sum := "9c9bf0865f1a7a0ce7019c9e0d498c9bc2c211ca64d34bee196cf5d93fbe7628", func := "example.com/ownersweep/ownersweep/internal/collector.LawS2734ARaise", spec := "lawS2734ARaise", unfollowed := true, recurses := true, apart := false }
def LawS2734ARaiseSaid : Prop := lawS2734ARaiseRow.holds Yba.pinned (OpenSpec.ofChange lawS2734ARaiseSpec)

/-- ITS FALSE NEIGHBOUR: 'it returns false'. Refute it at one input. -/
def lawS2734ARaiseWrong : ChangeSpec := { name := "lawS2734ARaise", fn := fun _ => fun
  | [d1, d2, d3, d4, d5, d6] => { results := [.lit (.bool false)], args := [d1, d2, d3, d4, d5, d6] }
  | _ => none }
def LawS2734ARaiseWrongFalsely : Prop := lawS2734ARaiseRow.holds Yba.pinned (OpenSpec.ofChange lawS2734ARaiseWrong)

end Rows
end Go.Proofs.Ybulkbdpe
