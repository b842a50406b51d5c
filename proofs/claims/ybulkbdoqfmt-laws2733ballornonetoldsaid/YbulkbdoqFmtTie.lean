/-
  DERIVED. GIVEN WITH THE SEED: THE PROGRAM's TIES (one call each: nine closed facts by the kernel) AND EACH ROW's TIE, after the 31st guide's Derived/Test/Toyas{Tie, Card}.lean. No idea stands in it: it is a product of the set-up. Laid BY PROGRAM, IN A SANDBOX (cutbox-door.mjs). By AI agents, Wed Nov 11 2026. No macro, syntax, notation, axiom, sorry.
-/
import Derived.Test.YbulkbdoqFmtRows
import Derived.LaidByTextLater
import Derived.SevenTiedAt
import Derived.LaidSub
import Derived.LaidOnce
namespace Go.Proofs.YbulkbdoqFmt
open Go
set_option maxRecDepth 100000
theorem seatTie1 : Ybaf.prog.laidByTextLater [("example.com/zhaomu/zhaomu/decimal.ErrRange", Rows.laid_example_com_zhaomu_zhaomu_decimal_ErrRange), ("example.com/zhaomu/zhaomu/decimal.pow10", Rows.laid_example_com_zhaomu_zhaomu_decimal_pow10)] [.sentinel, .called] true :=
  Program.laidByTextLater_by_one 577 8 21 (by kernel_rfl) (by kernel_rfl) (by kernel_rfl) (by kernel_rfl) (by kernel_rfl) (by kernel_rfl) (fun _ _ => by kernel_rfl)
theorem noOwnUnsafe : Ybaf.pinned.checked.prog.headLifts.contains "ownunsafe" = false := by kernel_rfl
theorem tie : Ybaf.prog.laidByTextLater [("example.com/zhaomu/zhaomu/decimal.ErrRange", Rows.laid_example_com_zhaomu_zhaomu_decimal_ErrRange), ("example.com/zhaomu/zhaomu/decimal.pow10", Rows.laid_example_com_zhaomu_zhaomu_decimal_pow10)] [.sentinel, .called] true :=
  Program.laidByTextLater.sub seatTie1 ["example.com/zhaomu/zhaomu/decimal.ErrRange", "example.com/zhaomu/zhaomu/decimal.pow10"] (by kernel_rfl) (by kernel_rfl)
theorem lawS2733BAllOrNone_row_tie : Rows.lawS2733BAllOrNoneRow.laidByTextAt .later Ybaf.pinned [.sentinel, .called] true :=
  OpenClaim.laidByTextAt_later rfl rfl tie noOwnUnsafe
end Go.Proofs.YbulkbdoqFmt
