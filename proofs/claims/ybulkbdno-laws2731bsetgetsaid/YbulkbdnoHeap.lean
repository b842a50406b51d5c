/-
  WHAT LIES IN MEMORY while the law runs: the sparse row with its chunks, the model's row, the touched row; how each step carries it on. No program in sight but for the numbers of the types.
-/
import Derived.Test.YbulkbdnoAtomic
namespace Go.Proofs.Ybulkbdno
open Go.RowKit

/-- M with v at i. -/
def upd (M : Nat → Int) (i : Nat) (v : Int) : Nat → Int := fun j => if j = i then v else M j
/-- P with chunk c at k. -/
def updP (P : Nat → Option Nat) (k c : Nat) : Nat → Option Nat := fun j => if j = k then some c else P j

theorem upd_same (M : Nat → Int) (i : Nat) (v : Int) : upd M i v i = v := by simp [upd]
theorem upd_other (M : Nat → Int) {i j : Nat} (v : Int) (h : j ≠ i) : upd M i v j = M j := by simp [upd, h]
theorem updP_same (P : Nat → Option Nat) (k c : Nat) : updP P k c k = some c := by simp [updP]
theorem updP_other (P : Nat → Option Nat) {k j : Nat} (c : Nat) (h : j ≠ k) : updP P k c j = P j := by simp [updP, h]

/-- The sparse row in block bS (C cells), its chunks in blocks from B on, holding M. -/
structure Sp (w : World) (B bS C : Nat) (P : Nat → Option Nat) (M : Nat → Int) : Prop where
  lt : bS < B
  row : w.rowIs bS 39 C (fun k => .pointer ((P k).map fun c => ⟨c, 0, none⟩))
  chunk : ∀ k c, k < C → P k = some c → B ≤ c ∧ w.rowIs c 41 256 (fun i => .int .i64 (M (k * 256 + i)))
  zero : ∀ k, k < C → P k = none → ∀ i, i < 256 → M (k * 256 + i) = 0
  inj : ∀ k k' c, k < C → k' < C → P k = some c → P k' = some c → k = k'

theorem Sp.alloc {w : World} {B bS C : Nat} {P : Nat → Option Nat} {M : Nat → Int} (h : Sp w B bS C P M) (o : Obj) : Sp (w.alloc o) B bS C P M :=
  ⟨h.lt, h.row.alloc o, fun k c hk hc => ⟨(h.chunk k c hk hc).1, (h.chunk k c hk hc).2.alloc o⟩, h.zero, h.inj⟩

theorem Sp.drew {w : World} {B bS C : Nat} {P : Nat → Option Nat} {M : Nat → Int} (h : Sp w B bS C P M) : Sp w.drew B bS C P M :=
  ⟨h.lt, h.row, h.chunk, h.zero, h.inj⟩

/-- A store into a block below B that is not the sparse row's. -/
theorem Sp.setOther {w : World} {B bS C : Nat} {P : Nat → Option Nat} {M : Nat → Int} (h : Sp w B bS C P M) {a : Addr} (h1 : a.block < B) (h2 : bS ≠ a.block) (v : Value) : Sp (w.setCell a v) B bS C P M :=
  ⟨h.lt, h.row.setOther h2 v, fun k c hk hc => ⟨(h.chunk k c hk hc).1, (h.chunk k c hk hc).2.setOther (by have := (h.chunk k c hk hc).1; omega) v⟩, h.zero, h.inj⟩

theorem div_ne {k i j : Nat} (hj : j < 256) (h : k ≠ i / 256) : k * 256 + j ≠ i := by omega
theorem div_eq (i : Nat) : i / 256 * 256 + i % 256 = i := by omega

theorem Sp.set_some {w : World} {B bS C : Nat} {P : Nat → Option Nat} {M : Nat → Int} (h : Sp w B bS C P M) {i c : Nat} (hk : i / 256 < C) (hc : P (i / 256) = some c) (v : Int) :
    Sp (w.setCell ⟨c, i % 256, none⟩ (.int .i64 v)) B bS C P (upd M i v) := by
  have hB := (h.chunk _ c hk hc).1
  have hlt := h.lt
  refine ⟨h.lt, h.row.setOther (by show bS ≠ c; omega) _, ?_, ?_, h.inj⟩
  · intro k' c' hk' hc'
    refine ⟨(h.chunk k' c' hk' hc').1, ?_⟩
    by_cases e : k' = i / 256
    · subst e
      obtain rfl : c' = c := by rw [hc] at hc'; exact (Option.some.inj hc').symm
      refine ((h.chunk _ c' hk hc).2.set (i % 256) (.int .i64 v)).congr fun j hj => ?_
      by_cases ej : j = i % 256
      · subst ej
        rw [if_pos rfl, div_eq, upd_same]
      · rw [if_neg ej, upd_other]
        omega
    · have hne : c' ≠ c := fun ec => e (h.inj k' (i / 256) c' hk' hk hc' (ec ▸ hc))
      refine ((h.chunk k' c' hk' hc').2.setOther (a := ⟨c, i % 256, none⟩) hne _).congr fun j hj => ?_
      rw [upd_other _ _ (div_ne hj e)]
  · intro k' hk' hc' j hj
    have e : k' ≠ i / 256 := fun e => by rw [e, hc] at hc'; cases hc'
    rw [upd_other _ _ (div_ne hj e)]
    exact h.zero k' hk' hc' j hj

theorem Sp.set_none {w : World} {B bS C : Nat} {P : Nat → Option Nat} {M : Nat → Int} (h : Sp w B bS C P M) (hB : B ≤ w.heap.size) {i : Nat} (hk : i / 256 < C) (hc : P (i / 256) = none) (v : Int) :
    Sp (((w.alloc (.cells Z256 41)).setCell ⟨bS, i / 256, none⟩ (.pointer (some ⟨w.heap.size, 0, none⟩))).setCell ⟨w.heap.size, i % 256, none⟩ (.int .i64 v)) B bS C (updP P (i / 256) w.heap.size) (upd M i v) := by
  have hlt := h.lt
  have hn := new_row w
  refine ⟨h.lt, ?_, ?_, ?_, ?_⟩
  · refine (((h.row.alloc _).set (i / 256) _).setOther (a := ⟨w.heap.size, i % 256, none⟩) (by show bS ≠ w.heap.size; omega) _).congr fun j hj => ?_
    by_cases e : j = i / 256
    · subst e; rw [if_pos rfl, updP_same]; rfl
    · rw [if_neg e, updP_other _ _ e]
  · intro k' c' hk' hc'
    by_cases e : k' = i / 256
    · subst e
      rw [updP_same] at hc'
      obtain rfl := Option.some.inj hc'
      refine ⟨hB, ?_⟩
      refine ((hn.setOther (a := ⟨bS, i / 256, none⟩) (by show w.heap.size ≠ bS; omega) _).set (i % 256) (.int .i64 v)).congr fun j hj => ?_
      by_cases ej : j = i % 256
      · subst ej
        rw [if_pos rfl, div_eq, upd_same]
      · rw [if_neg ej, upd_other _ _ (by omega), h.zero _ hk hc j hj]
    · rw [updP_other _ _ e] at hc'
      have hcl := (h.chunk k' c' hk' hc').2.lt
      have hcB := (h.chunk k' c' hk' hc').1
      refine ⟨hcB, ?_⟩
      refine ((((h.chunk k' c' hk' hc').2.alloc _).setOther (a := ⟨bS, i / 256, none⟩) (by show c' ≠ bS; omega) _).setOther (a := ⟨w.heap.size, i % 256, none⟩) (by show c' ≠ w.heap.size; omega) _).congr fun j hj => ?_
      rw [upd_other _ _ (div_ne hj e)]
  · intro k' hk' hc' j hj
    have e : k' ≠ i / 256 := fun e => by rw [e, updP_same] at hc'; cases hc'
    rw [updP_other _ _ e] at hc'
    rw [upd_other _ _ (div_ne hj e)]
    exact h.zero k' hk' hc' j hj
  · intro k1 k2 c h1 h2 hc1 hc2
    by_cases e1 : k1 = i / 256 <;> by_cases e2 : k2 = i / 256
    · omega
    · subst e1
      rw [updP_same] at hc1
      rw [updP_other _ _ e2] at hc2
      have := (h.chunk k2 c h2 hc2).2.lt
      have := Option.some.inj hc1
      omega
    · subst e2
      rw [updP_same] at hc2
      rw [updP_other _ _ e1] at hc1
      have := (h.chunk k1 c h1 hc1).2.lt
      have := Option.some.inj hc2
      omega
    · rw [updP_other _ _ e1] at hc1
      rw [updP_other _ _ e2] at hc2
      exact h.inj k1 k2 c h1 h2 hc1 hc2

/-- All of it: w0 the world ahead of the call, N its size; the rows in N, N + 1, N + 2. T: what 'touched' holds; M1: what the model holds. -/
structure Inv (w0 w : World) (n C : Nat) (P : Nat → Option Nat) (M M1 : Nat → Int) (T : Nat → Bool) : Prop where
  below : Below w0.heap.size w0 w
  size : w0.heap.size + 3 ≤ w.heap.size
  sp : Sp w (w0.heap.size + 3) w0.heap.size C P M
  md : w.rowIs (w0.heap.size + 1) 3 n (fun j => .int .i64 (M1 j))
  tc : w.rowIs (w0.heap.size + 2) 4 C (fun k => .bool (T k))

theorem Inv.alloc {w0 w : World} {n C : Nat} {P : Nat → Option Nat} {M M1 : Nat → Int} {T : Nat → Bool} (h : Inv w0 w n C P M M1 T) (o : Obj) : Inv w0 (w.alloc o) n C P M M1 T :=
  ⟨h.below.alloc (by have := h.size; omega) o, by have := h.size; simp; omega, h.sp.alloc o, h.md.alloc o, h.tc.alloc o⟩

theorem Inv.drew {w0 w : World} {n C : Nat} {P : Nat → Option Nat} {M M1 : Nat → Int} {T : Nat → Bool} (h : Inv w0 w n C P M M1 T) : Inv w0 w.drew n C P M M1 T :=
  ⟨h.below.drew, h.size, h.sp.drew, h.md, h.tc⟩

theorem Inv.drewN {w0 w : World} {n C : Nat} {P : Nat → Option Nat} {M M1 : Nat → Int} {T : Nat → Bool} (h : Inv w0 w n C P M M1 T) (m : Nat) : Inv w0 (w.drewN m) n C P M M1 T :=
  ⟨⟨h.below.os, h.below.tape, h.below.output, h.below.size, h.below.block⟩, h.size, ⟨h.sp.lt, h.sp.row, h.sp.chunk, h.sp.zero, h.sp.inj⟩, h.md, h.tc⟩

theorem Inv.model {w0 w : World} {n C : Nat} {P : Nat → Option Nat} {M M1 : Nat → Int} {T : Nat → Bool} (h : Inv w0 w n C P M M1 T) (i : Nat) (v : Int) :
    Inv w0 (w.setCell ⟨w0.heap.size + 1, i, none⟩ (.int .i64 v)) n C P M (upd M1 i v) T := by
  refine ⟨h.below.setCell (by show w0.heap.size ≤ w0.heap.size + 1; omega) _, by have := h.size; simpa [World.setCell] using this, h.sp.setOther (by show w0.heap.size + 1 < w0.heap.size + 3; omega) (by show w0.heap.size ≠ w0.heap.size + 1; omega) _, ?_,
    h.tc.setOther (by show w0.heap.size + 2 ≠ w0.heap.size + 1; omega) _⟩
  refine (h.md.set i (.int .i64 v)).congr fun j hj => ?_
  by_cases e : j = i
  · subst e; rw [if_pos rfl, upd_same]
  · rw [if_neg e, upd_other _ _ e]

theorem Inv.touch {w0 w : World} {n C : Nat} {P : Nat → Option Nat} {M M1 : Nat → Int} {T : Nat → Bool} (h : Inv w0 w n C P M M1 T) (k : Nat) :
    Inv w0 (w.setCell ⟨w0.heap.size + 2, k, none⟩ (.bool true)) n C P M M1 (fun j => if j = k then true else T j) := by
  refine ⟨h.below.setCell (by show w0.heap.size ≤ w0.heap.size + 2; omega) _, by have := h.size; simpa [World.setCell] using this, h.sp.setOther (by show w0.heap.size + 2 < w0.heap.size + 3; omega) (by show w0.heap.size ≠ w0.heap.size + 2; omega) _,
    h.md.setOther (by show w0.heap.size + 1 ≠ w0.heap.size + 2; omega) _, ?_⟩
  refine (h.tc.set k (.bool true)).congr fun j hj => ?_
  by_cases e : j = k
  · rw [if_pos e, if_pos e]
  · rw [if_neg e, if_neg e]

theorem cell_other (w : World) {b c : Nat} (i q : Nat) (v : Value) (h : b ≠ c) : (w.setCell ⟨c, i, none⟩ v).cell? ⟨b, q, none⟩ = w.cell? ⟨b, q, none⟩ :=
  World.cell?_of_block (w := w) (Below.heap_setCell w ⟨c, i, none⟩ v b h)

/-- 'get' at whatever index: what the sparse holds. -/
theorem get_inv {w0 w : World} {n C : Nat} {P : Nat → Option Nat} {M M1 : Nat → Int} {T : Nat → Bool} (h : Inv w0 w n C P M M1 T) (hC : C ≤ 4) (i : Nat) (hk : i / 256 < C) (hi : i ≤ 1023) :
    Calls Yba.prog 8 #[.slice (some ⟨w0.heap.size, 0, none⟩) C C, .int .i64 i] w fun e w' => e = .returned (.int .i64 (M i)) ∧ w' = w := by
  have hc := h.sp.row.cell hk
  cases hp : P (i / 256) with
  | none =>
    rw [hp] at hc
    have hz := h.sp.zero _ hk hp (i % 256) (by omega)
    rw [div_eq] at hz
    rw [hz]
    exact get_none _ _ _ _ hk hC hi hc
  | some c =>
    rw [hp] at hc
    have hr := (h.sp.chunk _ c hk hp).2
    have hv := hr.cell (i := i % 256) (by omega)
    rw [div_eq] at hv
    exact get_some _ _ _ c _ _ hk hC hi hc (shape_row hr) hv

/-- 'Load' at whatever chunk: nil just where none lies. -/
theorem load_inv {w0 w : World} {n C : Nat} {P : Nat → Option Nat} {M M1 : Nat → Int} {T : Nat → Bool} (h : Inv w0 w n C P M M1 T) (k : Nat) (hk : k < C) :
    Calls Yba.prog 9 #[.pointer (some ⟨w0.heap.size, k, none⟩)] w fun e w' => e = .returned (.pointer ((P k).map fun c => ⟨c, 0, none⟩)) ∧ w' = w := by
  have hc := h.sp.row.cell hk
  cases hp : P k with
  | none =>
    rw [hp] at hc
    exact load_none _ _ _ hc
  | some c =>
    rw [hp] at hc
    exact load_some _ _ c _ hc (shape_row (h.sp.chunk _ c hk hp).2)

/-- 'set' behind the box of the round's op: the sparse holds v at i; all else stands. -/
theorem set_inv {w0 w : World} {n C : Nat} {P : Nat → Option Nat} {M M1 : Nat → Int} {T : Nat → Bool} (h : Inv w0 w n C P M M1 T) (o : Obj) (hC : C ≤ 4) (i : Nat) (v : Int) (hk : i / 256 < C) (hi : i ≤ 1023) :
    Calls Yba.prog 7 #[.slice (some ⟨w0.heap.size, 0, none⟩) C C, .int .i64 i, .int .i64 v] (w.alloc o) fun e w' => e = .returned (.tuple #[]) ∧
      Hid (∃ P', (∀ k, (P' k).isSome = if k = i / 256 then true else (P k).isSome) ∧ Inv w0 w' n C P' (upd M i v) M1 T) ∧ (∀ q, w'.cell? ⟨w.heap.size, q, none⟩ = (w.alloc o).cell? ⟨w.heap.size, q, none⟩) := by
  have h' := h.alloc o
  have hc := h'.sp.row.cell hk
  have hsz := h'.size
  have hsz0 := h.size
  have hso : (w.alloc o).heap.size = w.heap.size + 1 := by simp
  cases hp : P (i / 256) with
  | none =>
    rw [hp] at hc
    refine (set_none _ _ _ v _ hk hC hi (by omega) hc (h'.sp.row.frozen _)).mono ?_
    rintro e w' ⟨he, hw⟩
    refine ⟨he, ⟨updP P (i / 256) (w.alloc o).heap.size, ?_, ?_⟩, ?_⟩
    · intro k
      by_cases e : k = i / 256
      · subst e; rw [updP_same, if_pos rfl]; rfl
      · rw [updP_other _ _ e, if_neg e]
    · rw [hw]
      have hsp := h'.sp.set_none hsz hk hp v
      refine ⟨?_, ?_, hsp, ?_, ?_⟩
      · exact ((h'.below.alloc (by omega) _).setCell (Nat.le_refl _) _).setCell (by show w0.heap.size ≤ (w.alloc o).heap.size; omega) _
      · simp [World.setCell]; omega
      · exact ((h'.md.alloc _).setOther (by show w0.heap.size + 1 ≠ w0.heap.size; omega) _).setOther (by show w0.heap.size + 1 ≠ (w.alloc o).heap.size; omega) _
      · exact ((h'.tc.alloc _).setOther (by show w0.heap.size + 2 ≠ w0.heap.size; omega) _).setOther (by show w0.heap.size + 2 ≠ (w.alloc o).heap.size; omega) _
    · intro q
      rw [hw]
      rw [cell_other _ _ _ _ (by omega), cell_other _ _ _ _ (by omega), World.cell?_alloc_past _ _ _ (by omega)]
  | some c =>
    rw [hp] at hc
    have hch := h'.sp.chunk _ c hk hp
    have hcl := (h.sp.chunk _ c hk hp).2.lt
    refine (set_some _ _ _ c _ v _ hk hC hi hc (shape_row hch.2) (hch.2.cell (by omega)) (hch.2.frozen _)).mono ?_
    rintro e w' ⟨he, hw⟩
    have hcB := hch.1
    refine ⟨he, ⟨P, ?_, ?_⟩, ?_⟩
    · intro k
      by_cases e : k = i / 256
      · subst e; rw [hp, if_pos rfl]; rfl
      · rw [if_neg e]
    · rw [hw]
      refine ⟨h'.below.setCell (by show w0.heap.size ≤ c; omega) _, by simpa [World.setCell] using hsz, h'.sp.set_some hk hp v, ?_, ?_⟩
      · exact h'.md.setOther (by show w0.heap.size + 1 ≠ c; omega) _
      · exact h'.tc.setOther (by show w0.heap.size + 2 ≠ c; omega) _
    · intro q
      rw [hw, cell_other _ _ _ _ (by omega)]

end Go.Proofs.Ybulkbdno
