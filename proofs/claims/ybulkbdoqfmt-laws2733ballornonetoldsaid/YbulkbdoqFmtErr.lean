/-
  THE CLOSED FACTS FOR A WALK OVER fmt.errorf, after the guide's SentryFmt and SentryIs, at this program's numbers; errors.Is on a wrapped sentinel; fmt.Errorf on a string and a sentinel.
  THE NUMBERS: 37 error, 74 pointer to errors.errorString, 76 errors.errorString, 62 pointer to fmt.wrapError, 103 fmt.wrapError, 64 reflectlite's rtype, 66, 69, 71 the three interfaces that errors.is asks for; functions: 7 errors.Is, 13 fmt.Errorf, 14 TypeOf, 17 fmt.errorf, 38 Unwrap, 42 Comparable.
-/
import Derived.Test.YbulkbdoqFmtDec
import Derived.LaidEql
import Derived.Stop.Asserts
import Derived.RowKitTokens
import Derived.Stop.CallBack
import Derived.Stop.IfaceNil
import GoSem.ClaimData
namespace Go.Proofs.YbulkbdoqFmt
open Go.RowKit Go.Extern.Stop Go.Stop Go.Extern

theorem call17 (args : Array Value) (w : World) : (callFunc 17 args).run Ybaf.prog w = ((FmtStop.errorf #[9, 60] #[37] args).run Ybaf.prog w).andThen fun v w' => .ok (.value v) w' :=
  run_callFunc_extern Ybaf.func17 (by kernel_rfl) (by kernel_rfl) (by kernel_rfl) (by kernel_rfl) args w
theorem guardF (name : String) (w : World) : (FmtStop.guard name).run Ybaf.prog w = .ok () w := by kernel_rfl
theorem fmt0 : FmtStop.printed? ⟨#[37, 115, 58, 32, 37, 119]⟩ 2 = some [(0, 115, false), (1, 119, false)] := by kernel_rfl
theorem fmt0r (w : World) : (FmtDoors.printed ⟨#[37, 115, 58, 32, 37, 119]⟩ 2).run Ybaf.prog w = .ok [(0, 115, false), (1, 119, false)] w := by kernel_rfl
theorem fmt1 : FmtStop.printed? ⟨#[37, 115, 58, 32, 37, 119]⟩ 0 = some [] := by kernel_rfl
theorem fmt1r (w : World) : (FmtDoors.printed ⟨#[37, 115, 58, 32, 37, 119]⟩ 0).run Ybaf.prog w = .ok [] w := by kernel_rfl
def shape9 : List UInt8 := [12, 6, 0, 0, 0, 0, 0, 0, 0, 115, 116, 114, 105, 110, 103]
theorem op9 (name : String) (s : ByteArray) (w : World) : (FmtStop.operand name true 115 false (.iface 9 (.string s))).run Ybaf.prog w = .ok (shape9, FmtStop.pack s.data.toList) w := by kernel_rfl
theorem ptr74 (w : World) : (FmtStop.ptrTo "errors.errorString").run Ybaf.prog w = .ok 74 w := by kernel_rfl
theorem elem74 (w : World) : (elemOf 74).run Ybaf.prog w = .ok 76 w := by kernel_rfl
theorem isError74 (w : World) : (FmtDoors.textMethod 74 "Error").run Ybaf.prog w = .ok true w := by kernel_rfl
theorem ptr62 (w : World) : (FmtStop.ptrTo "fmt.wrapError").run Ybaf.prog w = .ok 62 w := by kernel_rfl
theorem elem62 (w : World) : (elemOf 62).run Ybaf.prog w = .ok 103 w := by kernel_rfl
theorem isError62 (w : World) : (FmtDoors.textMethod 62 "Error").run Ybaf.prog w = .ok true w := by kernel_rfl
theorem opPlain (name : String) (a : Addr) (s : ByteArray) (w : World) (hc : w.cell? a = some (.string s)) :
    (FmtStop.operand name true 119 false (.iface 74 (.pointer (some a)))).run Ybaf.prog w = .ok (14 :: FmtStop.pack ((Ybaf.prog.typeName? 3 74).getD "").toByteArray.data.toList, s.data.toList) w := by
  have h1 : (typeStr 74).run Ybaf.prog w = .ok ((Ybaf.prog.typeName? 3 74).getD "") w := by kernel_rfl
  have d2 : Ybaf.t74.desc = .pointer 76 := rfl
  have d3 : Ybaf.t76.desc = .named "errors.errorString" 75 := rfl
  simp [FmtStop.operand, h1, d2, d3, run_load, hc]

/-! ### errors.Is -/
theorem callTypeOf (v : Value) (w : World) : (callFunc 14 #[.iface 74 v]).run Ybaf.prog w = .ok (.value (.iface 64 (.agg #[.pointer (some ⟨2, 74, none⟩)]))) w := by kernel_rfl
theorem callComparable (w : World) : (callFunc 42 #[.agg #[.pointer (some ⟨2, 74, none⟩)]]).run Ybaf.prog w = .ok (.value (.bool true)) w := by kernel_rfl
theorem isMethodComparable (v : Value) (w : World) : (Go.method 219 64 v "Comparable").run Ybaf.prog w = .ok (42, v) w := by kernel_rfl
theorem isComp : (Ybaf.prog.info? 74).map (·.comparable) = some true := by kernel_rfl
theorem isSize : (Ybaf.prog.info? 76).map (·.size) = some 1 := by kernel_rfl
theorem noIsE (v : Value) (xT : TypeId) (w : World) : (Instr.typeAssert (.iface 74 v) xT 66 true).run Ybaf.prog w = .ok (.tuple #[.nilIface, .bool false]) w := run_typeAssert_lacksB Ybaf.underlying66 (by kernel_rfl) (by kernel_rfl) v xT w
theorem noIsW (v : Value) (xT : TypeId) (w : World) : (Instr.typeAssert (.iface 62 v) xT 66 true).run Ybaf.prog w = .ok (.tuple #[.nilIface, .bool false]) w := run_typeAssert_lacksB Ybaf.underlying66 (by kernel_rfl) (by kernel_rfl) v xT w
theorem hasUnwrapW (v : Value) (xT : TypeId) (w : World) : (Instr.typeAssert (.iface 62 v) xT 69 true).run Ybaf.prog w = .ok (.tuple #[.iface 62 v, .bool true]) w := run_typeAssert_hasB Ybaf.underlying69 (by kernel_rfl) v xT w
theorem methodUnwrap (v : Value) (w : World) : (Go.method 219 62 v "Unwrap").run Ybaf.prog w = .ok (38, v) w := by kernel_rfl

set_option maxHeartbeats 800000 in
/-- errors.Is(e, x), e a wrapError that wraps x itself: one Unwrap, then equal. -/
theorem is_wrap_same (pb : Nat) (b : Addr) (w : World) (h1 : w.cell? ⟨pb, 1, none⟩ = some (.iface 74 (.pointer (some b)))) :
    Calls Ybaf.prog 7 #[.iface 62 (.pointer (some ⟨pb, 0, none⟩)), .iface 74 (.pointer (some b))] w fun e w' => e = .returned (.bool true) ∧ w' = w := by
  obtain ⟨i, hi, hcmp⟩ := Option.map_eq_some_iff.1 isComp
  obtain ⟨j, hj, hjs⟩ := Option.map_eq_some_iff.1 isSize
  have tT := callTypeOf
  have cT := callComparable
  have mR := isMethodComparable
  have nE := noIsE
  have nW := noIsW
  have uW := hasUnwrapW
  have mU := methodUnwrap
  have heq := run_eql_iface_ptr_same (P := Ybaf.prog) w b Ybaf.underlying37 Ybaf.underlying74 hi hcmp hj
  have hty := run_eql_iface_types (P := Ybaf.prog) 62 74 (.pointer (some ⟨pb, 0, none⟩)) (.pointer (some b)) Ybaf.underlying37 (by decide) w
  go_enter Ybaf.func7, Ybaf.ntmps7
  go_wp2
  refine wp_loop_rounds 2 ?_
  rw [rounds_succ]
  go_wp2
  rw [rounds_succ]
  go_wp2
  go_ret
  exact ⟨rfl, rfl⟩

theorem one_cells (w : World) (x y : Value) (t : TypeId) : (w.alloc (.cells #[x, y] t)).drew.cell? ⟨w.heap.size, 1, none⟩ = some y := by go_simp

set_option maxHeartbeats 800000 in
/-- fmt.Errorf on a name and the sentinel: a new wrapError that holds the sentinel. -/
theorem errorf_wrap (F : Interp) (nm s : ByteArray) (vb : Nat) (a : Addr) (w : World) (hF : F.answers w.tape) (h0 : w.cell? ⟨vb, 0, none⟩ = some (.iface 9 (.string nm))) (h1 : w.cell? ⟨vb, 1, none⟩ = some (.iface 74 (.pointer (some a)))) (hs : w.cell? a = some (.string s)) :
    Calls Ybaf.prog 13 #[.string ⟨#[37, 115, 58, 32, 37, 119]⟩, .slice (some ⟨vb, 0, none⟩) 2 2] w fun e w' => ∃ pb, e = .returned (.iface 62 (.pointer (some ⟨pb, 0, none⟩))) ∧ w.heap.size ≤ pb ∧ Below w.heap.size w w' ∧ w'.cell? ⟨pb, 1, none⟩ = some (.iface 74 (.pointer (some a))) := by
  have hF' := answers_open hF
  have hop := opPlain "fmt.errorf" a s w hs
  have k1 := call17
  have k2 := guardF
  have k3 := fmt0
  have k4 := fmt0r
  have k5 := fmt1
  have k6 := fmt1r
  have k7 := op9
  have k8 := ptr74
  have k9 := elem74
  have k10 := isError74
  have k11 := ptr62
  have k12 := elem62
  have k13 := isError62
  go_enter Ybaf.func13, Ybaf.ntmps13
  go_wp2
  go_ret
  refine ⟨w.heap.size, rfl, Nat.le_refl _, ((Below.refl _ _).alloc (Nat.le_refl _) _).drew, ?_⟩
  exact one_cells w _ _ _
end Go.Proofs.YbulkbdoqFmt
