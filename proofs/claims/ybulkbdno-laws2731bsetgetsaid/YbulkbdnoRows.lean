/-
  No cell of these rows narrows 'for every input' (looked for: loops, veiled, ifaces, maps, wideKeys, modest, calm, conditions, laid).
  DERIVED. THE GIVEN ROWS OF THIS SEAT. 3 by the template 'for every input the law returns true; each argument reads behind the call as it read before'; 0 by the template 'total and deterministic' (their statements: YbulkbdnoTotals.lean).
  GIVEN WITH THE SEED: the statements are not yours to turn. If you find one false, say at which input.
  Laid BY PROGRAM, IN A SANDBOX (cutbox-rows.mjs): the forced cells as the released guide's own fill.sh prints them over the translation a75c65701565edfd… (all of the seat's roots in one cut). By AI agents, Wed Nov 11 2026. No macro, syntax, notation, axiom, sorry.
-/
import Derived.Test.YbulkbdnoChecked
import GoSem.Claim
import GoSem.ClaimJoined
import GoSem.ClaimMapViews
import Derived.JoinedTies
import Derived.KernelRfl
namespace Go.Proofs.Ybulkbdno
/- THE CELL 'sum', in the pinned program and in every row, IS THE sha256 OF THE DUMP (.gsa) THAT YbulkbdnoProg.lean LOADS. Nothing in Lean hashes anything: it is a label: what it is worth is what the hold of that sum in a sandbox is worth. -/
noncomputable def Yba.pinned : Pinned := { name := "ybulkbdno", sum := "a75c65701565edfd4902ec11f6e75a4c0b7199781174f974f33967a22a75aeab", checked := Yba.checked }
namespace Rows
def none {H : Type} : Left H := { results := [], args := [] }

/-- 'presage.LawS2731BSetGet': WHATEVER THE INPUT: true; the input reads as it did. -/
def lawS2731BSetGetSpec : ChangeSpec := { name := "lawS2731BSetGet", fn := fun _ => fun
  | [d1, d2, d3] => { results := [.lit (.bool true)], args := [d1, d2, d3] }
  | _ => none }
def lawS2731BSetGetRow : OpenClaim := { program := "ybulkbdno", sum := "a75c65701565edfd4902ec11f6e75a4c0b7199781174f974f33967a22a75aeab", func := "example.com/presage/presage.LawS2731BSetGet", spec := "lawS2731BSetGet", inPlace := ["sync/atomic.LoadPointer", "sync/atomic.CompareAndSwapPointer"], apart := false }
def LawS2731BSetGetSaid : Prop := lawS2731BSetGetRow.holds Yba.pinned (OpenSpec.ofChange lawS2731BSetGetSpec)

/-- ITS FALSE NEIGHBOUR: 'it returns false'. Refute it at one input. -/
def lawS2731BSetGetWrong : ChangeSpec := { name := "lawS2731BSetGet", fn := fun _ => fun
  | [d1, d2, d3] => { results := [.lit (.bool false)], args := [d1, d2, d3] }
  | _ => none }
def LawS2731BSetGetWrongFalsely : Prop := lawS2731BSetGetRow.holds Yba.pinned (OpenSpec.ofChange lawS2731BSetGetWrong)

/-- 'order.LawS2731CModel': WHATEVER THE INPUT: true; the input reads as it did. -/
def lawS2731CModelSpec : ChangeSpec := { name := "lawS2731CModel", fn := fun _ => fun
  | [d1, d2, d3, d4] => { results := [.lit (.bool true)], args := [d1, d2, d3, d4] }
  | _ => none }
def lawS2731CModelRow : OpenClaim := { program := "ybulkbdno", sum := "a75c65701565edfd4902ec11f6e75a4c0b7199781174f974f33967a22a75aeab", func := "example.com/presage/presage/internal/order.LawS2731CModel", spec := "lawS2731CModel", unfollowed := true, recurses := true, apart := false }
def LawS2731CModelSaid : Prop := lawS2731CModelRow.holds Yba.pinned (OpenSpec.ofChange lawS2731CModelSpec)

/-- ITS FALSE NEIGHBOUR: 'it returns false'. Refute it at one input. -/
def lawS2731CModelWrong : ChangeSpec := { name := "lawS2731CModel", fn := fun _ => fun
  | [d1, d2, d3, d4] => { results := [.lit (.bool false)], args := [d1, d2, d3, d4] }
  | _ => none }
def LawS2731CModelWrongFalsely : Prop := lawS2731CModelRow.holds Yba.pinned (OpenSpec.ofChange lawS2731CModelWrong)

/-- 'order.LawS2731CPerm': WHATEVER THE INPUT: true; the input reads as it did. -/
def lawS2731CPermSpec : ChangeSpec := { name := "lawS2731CPerm", fn := fun _ => fun
  | [d1, d2, d3, d4] => { results := [.lit (.bool true)], args := [d1, d2, d3, d4] }
  | _ => none }
def lawS2731CPermRow : OpenClaim := { program := "ybulkbdno", sum := "a75c65701565edfd4902ec11f6e75a4c0b7199781174f974f33967a22a75aeab", func := "example.com/presage/presage/internal/order.LawS2731CPerm", spec := "lawS2731CPerm", unfollowed := true, recurses := true, apart := false }
def LawS2731CPermSaid : Prop := lawS2731CPermRow.holds Yba.pinned (OpenSpec.ofChange lawS2731CPermSpec)

/-- ITS FALSE NEIGHBOUR: 'it returns false'. Refute it at one input. -/
def lawS2731CPermWrong : ChangeSpec := { name := "lawS2731CPerm", fn := fun _ => fun
  | [d1, d2, d3, d4] => { results := [.lit (.bool false)], args := [d1, d2, d3, d4] }
  | _ => none }
def LawS2731CPermWrongFalsely : Prop := lawS2731CPermRow.holds Yba.pinned (OpenSpec.ofChange lawS2731CPermWrong)

end Rows
end Go.Proofs.Ybulkbdno
