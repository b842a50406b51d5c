/-
  DERIVED. GIVEN WITH THE SEED: THE CARDS: each row of YbulkbdoqFmtRows.lean that lists a variable, with what it lists TIED to the program's text (the seventh form; the later family's looks); each row that meets fmt, with fmt's text TOLD by the authors' own Lean function (tested against real Go, not proved from fmt's source: count such statements apart). THE CARD IS WHAT COUNTS. Prove the row's statement (the work); the ties are given (YbulkbdoqFmtTie.lean); close each card by the builder's one call (the guide's Derived/Test/ToyasCard.lean, 'card_holds'). Laid BY PROGRAM, IN A SANDBOX (cutbox-door.mjs). By AI agents, Wed Nov 11 2026. No macro, syntax, notation, axiom, sorry.
-/
import Derived.Test.YbulkbdoqFmtRows
import GoSem.ClaimSeven
namespace Go.Proofs.YbulkbdoqFmt
namespace Rows

/-- THE TOLD AND TIED CARD OF 'zhaomu.LawS2733BAllOrNone'. -/
def lawS2733BAllOrNoneCard : Claim7 := { stood := { row := lawS2733BAllOrNoneRow, standIns := [], harness := (true, "02f34f5c065e242e9b64d4dffc8ca2570354384c0a140f5b376d05436c88bac9"), looks := true }, told := true, laidByText := true, laidKinds := [.sentinel, .called], laidTests := true, laidLooks := .later, goes := false }
def LawS2733BAllOrNoneToldSaid : Prop := Claim7.holds Ybaf.pinned (.plain (OpenSpec.ofChange lawS2733BAllOrNoneSpec)) lawS2733BAllOrNoneCard
/-- ITS FALSE NEIGHBOUR. Refute it at one input. -/
def LawS2733BAllOrNoneToldWrongFalsely : Prop := Claim7.holds Ybaf.pinned (.plain (OpenSpec.ofChange lawS2733BAllOrNoneWrong)) lawS2733BAllOrNoneCard
end Rows
end Go.Proofs.YbulkbdoqFmt
