/-
  THE WALK of zzs2733bsame at two rows that hold the same.
-/
import Derived.Test.YbulkbdoqFmtHeap
import Derived.Deep.QuietTactic
import Derived.BigQuiet
import Derived.Laws.StructEq
namespace Go.Proofs.YbulkbdoqFmt
open Go.RowKit

set_option maxRecDepth 100000 in
theorem eq26 (a b : Int) (w : World) : (Op.equalIn 10000 26 (.agg #[.int .i64 a, .int .i64 b]) (.agg #[.int .i64 a, .int .i64 b])).run Ybaf.prog w = .ok true w := by
  have u2 := Ybaf.underlying2
  have u3 := Ybaf.underlying3
  have a2 := Ybaf.isAgg2
  have a3 := Ybaf.isAgg3
  have z2 := Ybaf.sizeOf2
  have z3 := Ybaf.sizeOf3
  have hS : Ybaf.prog.underlying 26 = some (.struct (Ybaf.prog.fieldsOf 26)) := by kernel_rfl
  have hp : Ybaf.prog.stoodInHeld 26 = false := by kernel_rfl
  rw [show (10000 : Nat) = 9999 + 1 from rfl, run_equalIn_agg w 9999 26 _ _ hS hp]
  simp only [Program.fieldsOf, Ybaf.underlying26]
  go_simp

set_option maxHeartbeats 400000 in
theorem same_any (ba bb n : Nat) (D E : Nat → Int × Nat) (w : World) (hn : n ≤ 1024) (ha : w.rowIs ba 26 (n * 2) (decRow D)) (hb : w.rowIs bb 26 (n * 2) (decRow E)) (he : ∀ i, i < n → D i = E i) :
    Calls Ybaf.prog 8 #[.slice (some ⟨ba, 0, none⟩) n n, .slice (some ⟨bb, 0, none⟩) n n] w fun e w' => e = .returned (.bool true) ∧ Below w.heap.size w w' := by
  have q := eq26
  go_enter Ybaf.func8, Ybaf.ntmps8
  go_wp2
  go_loopw [5] (fun iv wr => ∃ i m : Nat, i ≤ n ∧ iv = .int .i64 i ∧ wr = w.drewN m) (fun iv _ => n - (intOf iv).toNat)
  case atStart => exact ⟨0, 0, Nat.zero_le _, rfl, rfl⟩
  case round =>
    obtain ⟨i, m, hin, rfl, rfl⟩ := hrel
    by_cases hlt : i < n
    · obtain ⟨d0, d1, _, _⟩ := dec_cells ha hlt
      obtain ⟨e0, e1, _, _⟩ := dec_cells hb hlt
      rw [← he i hlt] at e0 e1
      generalize D i = d at *
      go_wp2_with fail
      go_quiet (fail)
      go_wp2
      go_roundw
      case rel => exact ⟨i + 1, _, by omega, by go_num, rfl⟩
      case measure => simp [intOf]; omega
    · go_wp2
      go_ret
      exact ⟨rfl, below_drewN (Below.refl _ _) _⟩
end Go.Proofs.YbulkbdoqFmt
