/-
  THE LAW's OWN ROWS: how they are laid, and how each step carries them on.
-/
import Derived.Test.YbulkbdoqFmtSums
import Derived.Test.YbulkbdoqFmtSame
namespace Go.Proofs.YbulkbdoqFmt
open Go.RowKit Go.Extern.Stop Go.Stop Go.Extern

/-- n zero decimals. -/
def Zrow (n : Nat) : Array Value := madeCells #[.int .i64 0, .int .i64 0] (n * 2)
/-- n zero sums. -/
def Yrow (n : Nat) : Array Value := madeCells #[.string ByteArray.empty, .pointer none, .int .i64 0, .int .i64 0] (n * 4)

theorem info35 : (Ybaf.prog.info? 35).map (fun i => (i.zero, i.size, i.bytes)) = some (some (.agg #[.string ByteArray.empty, .pointer none, .int .i64 0, .int .i64 0]), 4, 40) := by kernel_rfl

theorem make24 (n : Nat) (h : n ≤ 1024) (w : World) : (Instr.makeSlice 24 (.int .i64 (n : Int)) (.int .i64 (n : Int))).run Ybaf.prog w = .ok (.slice (some ⟨w.heap.size, 0, none⟩) n n) (w.alloc (.cells (Zrow n) 26)) := by
  obtain ⟨i, hi, hzz⟩ := Option.map_eq_some_iff.1 info26
  simp only [Prod.mk.injEq] at hzz
  obtain ⟨hz, hs, hb⟩ := hzz
  have hr := run_make (P := Ybaf.prog) w 24 26 i _ Ybaf.underlying24 hi hz .i64 .i64 (n : Int) (n : Int) (by omega) (Int.le_refl _) (by rw [hb]; omega) (by omega)
  simp only [Int.toNat_natCast, hs] at hr
  exact hr

theorem make30 (n : Nat) (h : n ≤ 1024) (w : World) : (Instr.makeSlice 30 (.int .i64 (n : Int)) (.int .i64 (n : Int))).run Ybaf.prog w = .ok (.slice (some ⟨w.heap.size, 0, none⟩) n n) (w.alloc (.cells (Yrow n) 35)) := by
  obtain ⟨i, hi, hzz⟩ := Option.map_eq_some_iff.1 info35
  simp only [Prod.mk.injEq] at hzz
  obtain ⟨hz, hs, hb⟩ := hzz
  have hr := run_make (P := Ybaf.prog) w 30 35 i _ Ybaf.underlying30 hi hz .i64 .i64 (n : Int) (n : Int) (by omega) (Int.le_refl _) (by rw [hb]; omega) (by omega)
  simp only [Int.toNat_natCast, hs] at hr
  exact hr

theorem Zrow_at (n i : Nat) (h : i < n * 2) : (Zrow n)[i]? = some (decRow (fun _ => (0, 0)) i) := by
  have h2 : i % 2 = 0 ∨ i % 2 = 1 := by omega
  rcases h2 with h2 | h2 <;> simp [Zrow, madeCells, h, h2, decRow]

theorem Zrow_row (w : World) (n : Nat) : (w.alloc (.cells (Zrow n) 26)).rowIs w.heap.size 26 (n * 2) (decRow (fun _ => (0, 0))) := by
  have hsz : (Zrow n).size = n * 2 := size_madeCells _ _
  have h := World.rowIs_alloc w (Zrow n) 26 (decRow (fun _ => (0, 0))) (fun i hi => Zrow_at n i (by omega))
  rw [hsz] at h
  exact h

/-- A row's cells as an array. -/
def arrOf (f : Nat → Value) (m : Nat) : Array Value := ((List.range m).map f).toArray

theorem arrOf_row (w : World) (f : Nat → Value) (m : Nat) (t : TypeId) : (w.alloc (.cells (arrOf f m) t)).rowIs w.heap.size t m f := by
  have hsz : (arrOf f m).size = m := by simp [arrOf]
  have h := World.rowIs_alloc w (arrOf f m) t f (fun i hi => by rw [hsz] at hi; simp [arrOf, hi])
  rw [hsz] at h
  exact h

theorem Yrow_row (w : World) (n : Nat) : (w.alloc (.cells (Yrow n) 35)).rowIs w.heap.size 35 (n * 4) (fun j => ((Yrow n)[j]?).getD undef) := by
  have hsz : (Yrow n).size = n * 4 := size_madeCells _ _
  have h := World.rowIs_alloc w (Yrow n) 35 (fun j => ((Yrow n)[j]?).getD undef) (fun i hi => by simp [hi])
  rw [hsz] at h
  exact h

theorem setRow_new (w : World) (c d : Array Value) (t : TypeId) : (w.alloc (.cells c t)).setRow w.heap.size d = w.alloc (.cells d t) := by
  unfold World.setRow World.alloc
  congr 1
  apply Array.ext
  · simp
  · intro k h1 h2
    simp only [Array.getElem_modify, Array.getElem_push]
    split
    · rename_i hk; subst hk; simp
    · rename_i hk
      have hlt : k < w.heap.size := by simp at h2; omega
      rw [dif_pos hlt, dif_pos hlt]

theorem decRow_one (D : Nat → Int × Nat) (j : Nat) : (decRow D j).oneCell' = true := by
  unfold decRow; split <;> rfl

/-- 'copy' of a row of decimals into one that has just been made. -/
theorem copy_new (w : World) (ty : TypeId) (bs n : Nat) (D : Nat → Int × Nat) (h : w.rowIs bs 26 (n * 2) (decRow D)) :
    (Builtin.copy_ #[24, 24] ty #[.slice (some ⟨w.heap.size, 0, none⟩) n n, .slice (some ⟨bs, 0, none⟩) n n]).run Ybaf.prog (w.alloc (.cells (Zrow n) 26)) = .ok (goInt n) (w.alloc (.cells (arrOf (decRow D) (n * 2)) 26)) := by
  obtain ⟨i, hi, hzz⟩ := Option.map_eq_some_iff.1 info26
  simp only [Prod.mk.injEq] at hzz
  obtain ⟨_, hs, _⟩ := hzz
  have hlen : ((List.range (n * 2)).map (decRow D)).length = n * 2 := by simp
  have hl := run_loadCells_list (P := Ybaf.prog) (w.alloc (.cells (Zrow n) 26)) ⟨bs, 0, none⟩ ((List.range (n * 2)).map (decRow D)) (fun j v hj => by
    have hj2 : j < n * 2 := by have := (List.getElem?_eq_some_iff.1 hj).1; simpa using this
    have hv : v = decRow D j := by simp [hj2] at hj; exact hj.symm
    rw [WideShapes.add_plain, Nat.zero_add, hv]
    exact (h.alloc _).cell hj2)
  have hsz : (Zrow n).size = n * 2 := size_madeCells _ _
  have hst := run_storeCells_at Ybaf.prog w.heap.size 0 26 ((List.range (n * 2)).map (decRow D)) 0 (Zrow n) (w.alloc (.cells (Zrow n) 26)) (Deep.blk_alloc_new _ _) (by rw [hlen, hsz]; omega) (fun v hv => by
    obtain ⟨j, _, rfl⟩ := List.mem_map.1 hv
    exact decRow_one D j)
  have hfin : (List.take (0 + 0) (Zrow n).toList ++ (List.range (n * 2)).map (decRow D) ++ List.drop (0 + 0 + ((List.range (n * 2)).map (decRow D)).length) (Zrow n).toList).toArray = arrOf (decRow D) (n * 2) := by
    rw [hlen]
    have : List.drop (0 + 0 + n * 2) (Zrow n).toList = [] := List.drop_eq_nil_of_le (by simp [hsz])
    rw [this]
    simp [arrOf]
  rw [hfin, setRow_new] at hst
  rw [hlen] at hl
  have hmin : Nat.min n n = n := Nat.min_self n
  simp [Builtin.copy_, run_underlying Ybaf.underlying24, Builtin.lenOf, Builtin.firstCells, sizeOf, typeInfo, hi, hs, hmin, hl, hst]

/-- The totals that came in. -/
def IsTots (w : World) (x : Option Addr) (len : Nat) (TC TP : Nat → Int) : Prop :=
  0 < len → ∃ b off, x = some ⟨b, off, none⟩ ∧ b < w.heap.size ∧ ∀ t, t < len → 0 ≤ TP t ∧ TP t ≤ 255 ∧ w.cell? ⟨b, off + t * 2, none⟩ = some (.int .i64 (TC t)) ∧ w.cell? ⟨b, off + t * 2 + 1, none⟩ = some (.int .u8 (TP t))
/-- The sums that came in. -/
def IsSums (w : World) (x : Option Addr) (len : Nat) (SS SC SP : Nat → Int) (SN : Nat → ByteArray) : Prop :=
  0 < len → ∃ b off, x = some ⟨b, off, none⟩ ∧ b < w.heap.size ∧ ∀ t, t < len → 0 ≤ SS t ∧ SS t ≤ 255 ∧ 0 ≤ SP t ∧ SP t ≤ 255 ∧ w.cell? ⟨b, off + t * 4, none⟩ = some (.int .u8 (SS t)) ∧ w.cell? ⟨b, off + t * 4 + 1, none⟩ = some (.int .i64 (SC t)) ∧ w.cell? ⟨b, off + t * 4 + 2, none⟩ = some (.int .u8 (SP t)) ∧ w.cell? ⟨b, off + t * 4 + 3, none⟩ = some (.string (SN t))

/-- The first t totals, made. -/
def totD (TC TP : Nat → Int) (t : Nat) : Nat → Int × Nat := fun i => if i < t then mkD (TC i) (TP i) else (0, 0)

theorem totD_succ (TC TP : Nat → Int) (t : Nat) : totD TC TP (t + 1) = updD (totD TC TP t) t (mkD (TC t) (TP t)) := by
  funext i
  unfold totD updD
  by_cases e : i = t
  · subst e; simp
  · by_cases h : i < t
    · simp [e, h]; omega
    · simp [e, h]; omega

theorem totD_good (TC TP : Nat → Int) (t i : Nat) : Good (totD TC TP t i) := by
  unfold totD
  by_cases h : i < t
  · rw [if_pos h]; exact mkD_good _ _
  · rw [if_neg h]; exact ⟨by decide, by decide, by decide⟩

/-- The row of sums when t of them are laid. -/
def partRow (bs len : Nat) (nm : Nat → ByteArray) (I : Nat → Nat) (X : Nat → Int × Nat) (t : Nat) : Nat → Value := fun j => if j < t * 4 then sumRow bs nm I X j else ((Yrow len)[j]?).getD undef

/-- The four rows of the law: the slots (block bs), the originals (bo), the expected (bo + 1), the sums (bo + 1 + 1). -/
structure St (w wr : World) (bs bo n len : Nat) (D E : Nat → Int × Nat) (G : Nat → Value) : Prop where
  bel : Below w.heap.size w wr
  size : bo + 1 + 1 < wr.heap.size
  sl : wr.rowIs bs 26 (n * 2) (decRow D)
  og : wr.rowIs bo 26 (n * 2) (decRow D)
  ex : wr.rowIs (bo + 1) 26 (n * 2) (decRow E)
  ss : wr.rowIs (bo + 1 + 1) 35 (len * 4) G

theorem St.below {w wr w' : World} {bs bo n len : Nat} {D E : Nat → Int × Nat} {G : Nat → Value} (h : St w wr bs bo n len D E G) (hb : Below wr.heap.size wr w') : St w w' bs bo n len D E G :=
  ⟨h.bel.trans (hb.mono h.bel.size), Nat.lt_of_lt_of_le h.size hb.size, h.sl.of_block (hb.block _ h.sl.lt), h.og.of_block (hb.block _ h.og.lt), h.ex.of_block (hb.block _ h.ex.lt), h.ss.of_block (hb.block _ h.ss.lt)⟩

theorem St.drew {w wr : World} {bs bo n len : Nat} {D E : Nat → Int × Nat} {G : Nat → Value} (h : St w wr bs bo n len D E G) : St w wr.drew bs bo n len D E G :=
  ⟨h.bel.drew, h.size, h.sl, h.og, h.ex, h.ss⟩

theorem St.start {w wa : World} {n len : Nat} {D : Nat → Int × Nat} (hbel : Below w.heap.size w wa) (hrow : wa.rowIs w.heap.size 26 (n * 2) (decRow D)) (nm : Nat → ByteArray) (I : Nat → Nat) (X : Nat → Int × Nat) :
    St w (((wa.alloc (.cells (arrOf (decRow D) (n * 2)) 26)).alloc (.cells (arrOf (decRow D) (n * 2)) 26)).alloc (.cells (Yrow len) 35)) w.heap.size wa.heap.size n len D D (partRow w.heap.size len nm I X 0) := by
  have h1 := arrOf_row wa (decRow D) (n * 2) 26
  have h2 := arrOf_row (wa.alloc (.cells (arrOf (decRow D) (n * 2)) 26)) (decRow D) (n * 2) 26
  have h3 := Yrow_row ((wa.alloc (.cells (arrOf (decRow D) (n * 2)) 26)).alloc (.cells (arrOf (decRow D) (n * 2)) 26)) len
  have s1 : (wa.alloc (.cells (arrOf (decRow D) (n * 2)) 26)).heap.size = wa.heap.size + 1 := by simp
  have s2 : ((wa.alloc (.cells (arrOf (decRow D) (n * 2)) 26)).alloc (.cells (arrOf (decRow D) (n * 2)) 26)).heap.size = wa.heap.size + 1 + 1 := by simp
  rw [s1] at h2
  rw [s2] at h3
  have hsz := hbel.size
  refine ⟨((hbel.alloc hsz _).alloc (by simp; omega) _).alloc (by simp; omega) _, by simp, ((hrow.alloc _).alloc _).alloc _, (h1.alloc _).alloc _, h2.alloc _, h3.congr fun j hj => ?_⟩
  simp [partRow]

theorem St.setE {w wr : World} {bs bo n len : Nat} {D E : Nat → Int × Nat} {G : Nat → Value} (h : St w wr bs bo n len D E G) (hbs : w.heap.size ≤ bs) (hbo : bs < bo) (i : Nat) (d : Int × Nat) :
    St w ((wr.setCell ⟨bo + 1, i * 2, none⟩ (.int .i64 d.1)).setCell ⟨bo + 1, i * 2 + 1, none⟩ (.int .i64 (d.2 : Int))) bs bo n len D (updD E i d) G := by
  refine ⟨(h.bel.setCell (by show w.heap.size ≤ bo + 1; omega) _).setCell (by show w.heap.size ≤ bo + 1; omega) _, by have := h.size; simpa [World.setCell] using this,
    (h.sl.setOther (by show bs ≠ bo + 1; omega) _).setOther (by show bs ≠ bo + 1; omega) _, (h.og.setOther (by show bo ≠ bo + 1; omega) _).setOther (by show bo ≠ bo + 1; omega) _, dec_set h.ex i d,
    (h.ss.setOther (by show bo + 1 + 1 ≠ bo + 1; omega) _).setOther (by show bo + 1 + 1 ≠ bo + 1; omega) _⟩

theorem part_succ (bs len : Nat) (nm : Nat → ByteArray) (I : Nat → Nat) (X : Nat → Int × Nat) (t j : Nat) :
    partRow bs len nm I X (t + 1) j = (if j = t * 4 + 3 then .int .i64 ((X t).2 : Int) else if j = t * 4 + 2 then .int .i64 (X t).1 else if j = t * 4 + 1 then .pointer (some ⟨bs, I t * 2, none⟩) else if j = t * 4 then .string (nm t) else partRow bs len nm I X t j) := by
  have b0 : t * 4 / 4 = t := by omega
  have b1 : (t * 4 + 1) / 4 = t := by omega
  have b2 : (t * 4 + 2) / 4 = t := by omega
  have b3 : (t * 4 + 3) / 4 = t := by omega
  have a1 : (t * 4 + 1) % 4 = 1 := by omega
  have a2 : (t * 4 + 2) % 4 = 2 := by omega
  have a3 : (t * 4 + 3) % 4 = 3 := by omega
  unfold partRow
  by_cases e3 : j = t * 4 + 3
  · subst e3; rw [if_pos (by omega), if_pos rfl]; simp [sumRow, a3, b3]
  · rw [if_neg e3]
    by_cases e2 : j = t * 4 + 2
    · subst e2; rw [if_pos (by omega), if_pos rfl]; simp [sumRow, a2, b2]
    · rw [if_neg e2]
      by_cases e1 : j = t * 4 + 1
      · subst e1; rw [if_pos (by omega), if_pos rfl]; simp [sumRow, a1, b1]
      · rw [if_neg e1]
        by_cases e0 : j = t * 4
        · subst e0; rw [if_pos (by omega), if_pos rfl]; simp [sumRow, b0]
        · rw [if_neg e0]
          by_cases hj : j < t * 4
          · rw [if_pos hj, if_pos (by omega)]
          · rw [if_neg hj, if_neg (by omega)]

theorem St.setS {w wr : World} {bs bo n len : Nat} {D E : Nat → Int × Nat} {nm : Nat → ByteArray} {I : Nat → Nat} {X : Nat → Int × Nat} {t : Nat} (h : St w wr bs bo n len D E (partRow bs len nm I X t)) (hbs : w.heap.size ≤ bs) (hbo : bs < bo) :
    St w ((((wr.setCell ⟨bo + 1 + 1, t * 4, none⟩ (.string (nm t))).setCell ⟨bo + 1 + 1, t * 4 + 1, none⟩ (.pointer (some ⟨bs, I t * 2, none⟩))).setCell ⟨bo + 1 + 1, t * 4 + 2, none⟩ (.int .i64 (X t).1)).setCell ⟨bo + 1 + 1, t * 4 + 3, none⟩ (.int .i64 ((X t).2 : Int))) bs bo n len D E (partRow bs len nm I X (t + 1)) := by
  refine ⟨(((h.bel.setCell (by show w.heap.size ≤ bo + 1 + 1; omega) _).setCell (by show w.heap.size ≤ bo + 1 + 1; omega) _).setCell (by show w.heap.size ≤ bo + 1 + 1; omega) _).setCell (by show w.heap.size ≤ bo + 1 + 1; omega) _, by have := h.size; simpa [World.setCell] using this,
    (((h.sl.setOther (by show bs ≠ bo + 1 + 1; omega) _).setOther (by show bs ≠ bo + 1 + 1; omega) _).setOther (by show bs ≠ bo + 1 + 1; omega) _).setOther (by show bs ≠ bo + 1 + 1; omega) _,
    (((h.og.setOther (by show bo ≠ bo + 1 + 1; omega) _).setOther (by show bo ≠ bo + 1 + 1; omega) _).setOther (by show bo ≠ bo + 1 + 1; omega) _).setOther (by show bo ≠ bo + 1 + 1; omega) _,
    (((h.ex.setOther (by show bo + 1 ≠ bo + 1 + 1; omega) _).setOther (by show bo + 1 ≠ bo + 1 + 1; omega) _).setOther (by show bo + 1 ≠ bo + 1 + 1; omega) _).setOther (by show bo + 1 ≠ bo + 1 + 1; omega) _, ?_⟩
  refine ((((h.ss.set (t * 4) _).set (t * 4 + 1) _).set (t * 4 + 2) _).set (t * 4 + 3) _).congr fun j hj => ?_
  rw [part_succ]

end Go.Proofs.YbulkbdoqFmt
