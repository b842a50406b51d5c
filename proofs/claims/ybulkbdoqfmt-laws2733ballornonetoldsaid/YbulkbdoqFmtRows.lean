/-
  NARROWER THAN 'FOR EVERY INPUT', by the rows' own cells (each row's printed sentence says how): LawS2733BAllOrNone: ifaces, laid.
  DERIVED. THE GIVEN ROWS OF THIS SEAT. 1 by the template 'for every input the law returns true; each argument reads behind the call as it read before'; 0 by the template 'total and deterministic' (their statements: YbulkbdoqFmtTotals.lean).
  GIVEN WITH THE SEED: the statements are not yours to turn. If you find one false, say at which input.
  Laid BY PROGRAM, IN A SANDBOX (cutbox-rows.mjs): the forced cells as the released guide's own fill.sh prints them over the translation a7284134d79d8e72… (all of the seat's roots in one cut). By AI agents, Wed Nov 11 2026. No macro, syntax, notation, axiom, sorry.
-/
import Derived.Test.YbulkbdoqFmtChecked
import GoSem.Claim
import GoSem.ClaimJoined
import GoSem.ClaimMapViews
import Derived.JoinedTies
import Derived.KernelRfl
namespace Go.Proofs.YbulkbdoqFmt
/- THE CELL 'sum', in the pinned program and in every row, IS THE sha256 OF THE DUMP (.gsa) THAT YbulkbdoqFmtProg.lean LOADS. Nothing in Lean hashes anything: it is a label: what it is worth is what the hold of that sum in a sandbox is worth. -/
noncomputable def Ybaf.pinned : Pinned := { name := "ybulkbdoqfmt", sum := "a7284134d79d8e72711cecd52580edf264ccac4a5a85d001ea1a09d918adc074", checked := Ybaf.checked }
namespace Rows
def none {H : Type} : Left H := { results := [], args := [] }

/- WHAT THE LISTED PACKAGE-LEVEL VARIABLES READ AS WHEN THE CALL BEGINS. Each datum BY PROGRAM (the guide's laid-datum.mjs) off the statement by which the dump's own 'gosem.cut.vars' lays the variable. In a bare row this is a premise. The card (YbulkbdoqFmtCards.lean) ties it to the program's text. -/
def laid_example_com_zhaomu_zhaomu_decimal_ErrRange {H : Type} : DataW H := .iface "*errors.errorString" (.ptr (.agg [.lit (.string [98, 101, 121, 111, 110, 100, 32, 49, 56, 32, 100, 105, 103, 105, 116, 115, 32, 111, 114, 32, 49, 56, 32, 100, 101, 99, 105, 109, 97, 108, 32, 112, 108, 97, 99, 101, 115])]))
def laid_example_com_zhaomu_zhaomu_decimal_pow10 {H : Type} : DataW H := .agg [.lit (.int .u64 1), .lit (.int .u64 10), .lit (.int .u64 100), .lit (.int .u64 1000), .lit (.int .u64 10000), .lit (.int .u64 100000), .lit (.int .u64 1000000), .lit (.int .u64 10000000), .lit (.int .u64 100000000), .lit (.int .u64 1000000000), .lit (.int .u64 10000000000), .lit (.int .u64 100000000000), .lit (.int .u64 1000000000000), .lit (.int .u64 10000000000000), .lit (.int .u64 100000000000000), .lit (.int .u64 1000000000000000), .lit (.int .u64 10000000000000000), .lit (.int .u64 100000000000000000), .lit (.int .u64 1000000000000000000), .lit (.int .u64 10000000000000000000)]

/-- 'zhaomu.LawS2733BAllOrNone': WHATEVER THE INPUT: true; the input reads as it did. -/
def lawS2733BAllOrNoneSpec : ChangeSpec := { name := "lawS2733BAllOrNone", vars := ["example.com/zhaomu/zhaomu/decimal.ErrRange", "example.com/zhaomu/zhaomu/decimal.pow10"], fn := fun _ => fun
  | [d1, d2, g1, g2] => { results := [.lit (.bool true)], args := [d1, d2], vars := [g1, g2] }
  | _ => none }
def lawS2733BAllOrNoneRow : OpenClaim := { program := "ybulkbdoqfmt", sum := "a7284134d79d8e72711cecd52580edf264ccac4a5a85d001ea1a09d918adc074", func := "example.com/zhaomu/zhaomu.LawS2733BAllOrNone", spec := "lawS2733BAllOrNone", stops := ["fmt.Sprintf", "fmt.errorf"], inPlace := ["fmt.Sprintf", "fmt.errorf", "internal/reflectlite.TypeOf"], unfollowed := true, recurses := true, named := ["example.com/zhaomu/zhaomu/decimal.ErrRange", "example.com/zhaomu/zhaomu/decimal.pow10"], ifaces := true, apart := false, laid := [("example.com/zhaomu/zhaomu/decimal.ErrRange", laid_example_com_zhaomu_zhaomu_decimal_ErrRange), ("example.com/zhaomu/zhaomu/decimal.pow10", laid_example_com_zhaomu_zhaomu_decimal_pow10)] }
/-- NO THEOREM (fmt's text is open here; it may be false): for the released tool's asking of the row's closed facts alone. THE STATEMENT IS 'LawS2733BAllOrNoneToldSaid' (YbulkbdoqFmtCards.lean). -/
def LawS2733BAllOrNoneFormAsk : Prop := lawS2733BAllOrNoneRow.holds Ybaf.pinned (OpenSpec.ofChange lawS2733BAllOrNoneSpec)

/-- ITS FALSE NEIGHBOUR: 'it returns false'. Refute it at one input. -/
def lawS2733BAllOrNoneWrong : ChangeSpec := { name := "lawS2733BAllOrNone", vars := ["example.com/zhaomu/zhaomu/decimal.ErrRange", "example.com/zhaomu/zhaomu/decimal.pow10"], fn := fun _ => fun
  | [d1, d2, g1, g2] => { results := [.lit (.bool false)], args := [d1, d2], vars := [g1, g2] }
  | _ => none }
def LawS2733BAllOrNoneWrongFormAsk : Prop := lawS2733BAllOrNoneRow.holds Ybaf.pinned (OpenSpec.ofChange lawS2733BAllOrNoneWrong)

end Rows
end Go.Proofs.YbulkbdoqFmt
