/-
  WHAT LIES IN MEMORY: rows of decimals (two cells an element), rows of sums (four cells an element); what a world keeps but for one block.
-/
import Derived.Test.YbulkbdoqFmtErr
import Derived.Deep.OwnRows
namespace Go.Proofs.YbulkbdoqFmt
open Go.RowKit

/-- Every block that there was, but for block b, is as it was. -/
structure Kept (b : Nat) (w w' : World) : Prop where
  os : w'.os = w.os
  tape : w'.tape = w.tape
  output : w'.output = w.output
  size : w.heap.size ≤ w'.heap.size
  block : ∀ k, k < w.heap.size → k ≠ b → w'.heap[k]? = w.heap[k]?

theorem Kept.refl (b : Nat) (w : World) : Kept b w w := ⟨rfl, rfl, rfl, Nat.le_refl _, fun _ _ _ => rfl⟩
theorem Kept.of_below {b : Nat} {w w' : World} (h : Below w.heap.size w w') : Kept b w w' := ⟨h.os, h.tape, h.output, h.size, fun k hk _ => h.block k hk⟩
theorem Kept.trans {b : Nat} {w w' w'' : World} (h : Kept b w w') (k : Kept b w' w'') : Kept b w w'' :=
  ⟨k.os.trans h.os, k.tape.trans h.tape, k.output.trans h.output, Nat.le_trans h.size k.size, fun i hi hb => (k.block i (Nat.lt_of_lt_of_le hi h.size) hb).trans (h.block i hi hb)⟩
theorem Kept.setCell {b : Nat} {w w' : World} (h : Kept b w w') (o : Nat) (v : Value) : Kept b w (w'.setCell ⟨b, o, none⟩ v) :=
  h.trans ⟨rfl, rfl, rfl, by simp [World.setCell], fun k _ hb => Below.heap_setCell _ _ _ _ hb⟩
theorem Kept.alloc {b : Nat} {w w' : World} (h : Kept b w w') (o : Obj) : Kept b w (w'.alloc o) :=
  h.trans (Kept.of_below ((Below.refl _ _).alloc (Nat.le_refl _) _))
theorem Kept.drew {b : Nat} {w w' : World} (h : Kept b w w') : Kept b w w'.drew := ⟨h.os, h.tape, h.output, h.size, h.block⟩
theorem Kept.drewN {b : Nat} {w w' : World} (h : Kept b w w') (n : Nat) : Kept b w (w'.drewN n) := ⟨h.os, h.tape, h.output, h.size, h.block⟩
theorem Kept.below {b B : Nat} {w w' : World} (h : Kept b w w') (hb : B ≤ b) (hB : B ≤ w.heap.size) : Below B w w' :=
  ⟨h.os, h.tape, h.output, h.size, fun k hk => h.block k (by omega) (by omega)⟩
theorem Kept.row {b c : Nat} {w w' : World} {t : TypeId} {n : Nat} {f : Nat → Value} (h : Kept b w w') (hr : w.rowIs c t n f) (hc : c ≠ b) : w'.rowIs c t n f :=
  hr.of_block (h.block c hr.lt hc)

/-- A row of decimals, cell by cell. -/
def decRow (D : Nat → Int × Nat) : Nat → Value := fun j => if j % 2 = 0 then .int .i64 (D (j / 2)).1 else .int .i64 ((D (j / 2)).2 : Int)

theorem decRow_even (D : Nat → Int × Nat) (i : Nat) : decRow D (i * 2) = .int .i64 (D i).1 := by
  have h2 : i * 2 / 2 = i := by omega
  simp [decRow, h2]
theorem decRow_odd (D : Nat → Int × Nat) (i : Nat) : decRow D (i * 2 + 1) = .int .i64 ((D i).2 : Int) := by
  have h2 : (i * 2 + 1) / 2 = i := by omega
  simp [decRow, h2]

/-- D with d at i. -/
def updD (D : Nat → Int × Nat) (i : Nat) (d : Int × Nat) : Nat → Int × Nat := fun j => if j = i then d else D j

theorem dec_cells {w : World} {b n : Nat} {D : Nat → Int × Nat} (h : w.rowIs b 26 (n * 2) (decRow D)) {i : Nat} (hi : i < n) :
    w.cell? ⟨b, i * 2, none⟩ = some (.int .i64 (D i).1) ∧ w.cell? ⟨b, i * 2 + 1, none⟩ = some (.int .i64 ((D i).2 : Int)) ∧ w.frozen? ⟨b, i * 2, none⟩ = false ∧ w.frozen? ⟨b, i * 2 + 1, none⟩ = false := by
  have h0 := h.cell (i := i * 2) (by omega)
  have h1 := h.cell (i := i * 2 + 1) (by omega)
  rw [decRow_even] at h0
  rw [decRow_odd] at h1
  exact ⟨h0, h1, h.frozen _, h.frozen _⟩

theorem dec_set {w : World} {b n : Nat} {D : Nat → Int × Nat} (h : w.rowIs b 26 (n * 2) (decRow D)) (i : Nat) (d : Int × Nat) :
    ((w.setCell ⟨b, i * 2, none⟩ (.int .i64 d.1)).setCell ⟨b, i * 2 + 1, none⟩ (.int .i64 (d.2 : Int))).rowIs b 26 (n * 2) (decRow (updD D i d)) := by
  refine ((h.set (i * 2) _).set (i * 2 + 1) _).congr fun j hj => ?_
  by_cases e1 : j = i * 2 + 1
  · subst e1
    rw [if_pos rfl, decRow_odd]
    simp [updD]
  · rw [if_neg e1]
    by_cases e0 : j = i * 2
    · subst e0
      rw [if_pos rfl, decRow_even]
      simp [updD]
    · rw [if_neg e0]
      have e2 : j / 2 ≠ i := by omega
      simp [decRow, updD, e2]

/-- A row of sums, cell by cell: the name, the place of the total among the slots (block bs), the figure. -/
def sumRow (bs : Nat) (nm : Nat → ByteArray) (I : Nat → Nat) (X : Nat → Int × Nat) : Nat → Value := fun j =>
  if j % 4 = 0 then .string (nm (j / 4)) else if j % 4 = 1 then .pointer (some ⟨bs, I (j / 4) * 2, none⟩) else if j % 4 = 2 then .int .i64 (X (j / 4)).1 else .int .i64 ((X (j / 4)).2 : Int)

theorem sum_cells {w : World} {b bs n : Nat} {nm : Nat → ByteArray} {I : Nat → Nat} {X : Nat → Int × Nat} (h : w.rowIs b 35 (n * 4) (sumRow bs nm I X)) {i : Nat} (hi : i < n) :
    w.cell? ⟨b, i * 4, none⟩ = some (.string (nm i)) ∧ w.cell? ⟨b, i * 4 + 1, none⟩ = some (.pointer (some ⟨bs, I i * 2, none⟩)) ∧ w.cell? ⟨b, i * 4 + 2, none⟩ = some (.int .i64 (X i).1) ∧ w.cell? ⟨b, i * 4 + 3, none⟩ = some (.int .i64 ((X i).2 : Int)) := by
  have h0 := h.cell (i := i * 4) (by omega)
  have h1 := h.cell (i := i * 4 + 1) (by omega)
  have h2 := h.cell (i := i * 4 + 2) (by omega)
  have h3 := h.cell (i := i * 4 + 3) (by omega)
  have a0 : i * 4 % 4 = 0 := by omega
  have b0 : i * 4 / 4 = i := by omega
  have a1 : (i * 4 + 1) % 4 = 1 := by omega
  have b1 : (i * 4 + 1) / 4 = i := by omega
  have a2 : (i * 4 + 2) % 4 = 2 := by omega
  have b2 : (i * 4 + 2) / 4 = i := by omega
  have a3 : (i * 4 + 3) % 4 = 3 := by omega
  have b3 : (i * 4 + 3) / 4 = i := by omega
  simp [sumRow, a0, b0] at h0
  simp [sumRow, a1, b1] at h1
  simp [sumRow, a2, b2] at h2
  simp [sumRow, a3, b3] at h3
  exact ⟨h0, h1, h2, h3⟩

/-- What the t-th Add gives, where it gives anything. -/
def resOf (D : Nat → Int × Nat) (I : Nat → Nat) (X : Nat → Int × Nat) (t : Nat) : Int × Nat := (sumOf (D (I t)) (X t)).getD (0, 0)
/-- The first t Adds all fit. -/
def allFit (D : Nat → Int × Nat) (I : Nat → Nat) (X : Nat → Int × Nat) (t : Nat) : Prop := ∀ i, i < t → sumOf (D (I i)) (X i) = some (resOf D I X i)
/-- The totals when the first t results are stored. -/
def finD (D : Nat → Int × Nat) (I : Nat → Nat) (X : Nat → Int × Nat) : Nat → Nat → Int × Nat
  | 0 => D
  | t + 1 => updD (finD D I X t) (I t) (resOf D I X t)

theorem resOf_some {D : Nat → Int × Nat} {I : Nat → Nat} {X : Nat → Int × Nat} {t : Nat} {r : Int × Nat} (h : sumOf (D (I t)) (X t) = some r) : resOf D I X t = r := by
  simp [resOf, h]
theorem allFit_succ {D : Nat → Int × Nat} {I : Nat → Nat} {X : Nat → Int × Nat} {t : Nat} {r : Int × Nat} (ha : allFit D I X t) (h : sumOf (D (I t)) (X t) = some r) : allFit D I X (t + 1) := by
  intro i hi
  by_cases e : i = t
  · subst e; rw [h, resOf_some h]
  · exact ha i (by omega)

/-- The added figures, as cells, one behind the other. -/
def flatRes (R : Nat → Int × Nat) : Nat → List Value
  | 0 => []
  | t + 1 => flatRes R t ++ [.int .i64 (R t).1, .int .i64 ((R t).2 : Int)]

theorem flatRes_length (R : Nat → Int × Nat) (t : Nat) : (flatRes R t).length = t * 2 := by
  induction t with
  | zero => rfl
  | succ t ih => simp [flatRes, ih]; omega

theorem flatRes_at (R : Nat → Int × Nat) (t i : Nat) (h : i < t) : (flatRes R t)[i * 2]? = some (.int .i64 (R i).1) ∧ (flatRes R t)[i * 2 + 1]? = some (.int .i64 ((R i).2 : Int)) := by
  induction t with
  | zero => omega
  | succ t ih =>
    have hl := flatRes_length R t
    by_cases e : i = t
    · subst e
      simp only [flatRes]
      constructor
      · rw [List.getElem?_append_right (by omega), hl]; simp
      · rw [List.getElem?_append_right (by omega), hl]
        have : i * 2 + 1 - i * 2 = 1 := by omega
        rw [this]; rfl
    · obtain ⟨h1, h2⟩ := ih (by omega)
      simp only [flatRes]
      constructor
      · rw [List.getElem?_append_left (by omega)]; exact h1
      · rw [List.getElem?_append_left (by omega)]; exact h2
end Go.Proofs.YbulkbdoqFmt
