/-
  THE PLAIN LAW, AND THE LAW's OWN WALK.
-/
import Derived.Test.YbulkbdpeAbsorb
import Derived.Test.YbulkbdpeBuild
namespace Go.Proofs.Ybulkbdpe
open Go.RowKit
set_option linter.unusedVariables false

/-- THE PLAIN LAW: what was absorbed tells the same first lacking version, and the same kept one above it. -/
theorem same_told {V : Nat → Nat} {n o T X fr f1 J1 f2 J2 : Nat} (hm : ∀ s t, s < t → t < n → V s < V t) (hon : o ≤ n) (hu : Up V T o X) (h1 : Told V o n X fr f1 J1) (h2 : Told V 0 n T fr f2 J2) : f1 = f2 ∧ J1 = J2 := by
  obtain ⟨u1, _, u3, u4⟩ := hu
  obtain ⟨a1, a2, a3, a4, a5, a6⟩ := h1
  obtain ⟨b1, b2, b3, b4, b5, b6⟩ := h2
  have n1 : ∀ t, t < n → V t ≠ f1 := by
    intro t ht e
    by_cases h : t < o
    · have := u3 t h
      omega
    · by_cases h' : t < J1
      · have := a5 t (by omega) h'
        omega
      · have h3 := a6 (by omega)
        rcases Nat.lt_or_ge J1 t with h4 | h4
        · have := hm J1 t h4 ht
          omega
        · obtain rfl : t = J1 := by omega
          omega
  have n2 : ∀ t, t < n → V t ≠ f2 := by
    intro t ht e
    by_cases h' : t < J2
    · have := b5 t (by omega) h'
      omega
    · have h3 := b6 (by omega)
      rcases Nat.lt_or_ge J2 t with h4 | h4
      · have := hm J2 t h4 ht
        omega
      · obtain rfl : t = J2 := by omega
        omega
  have ef : f1 = f2 := by
    rcases Nat.lt_trichotomy f1 f2 with h | h | h
    · obtain ⟨t, ht, e⟩ := b2 f1 (by omega) h
      exact absurd e (n1 t ht)
    · exact h
    · by_cases hx : max fr X < f2
      · obtain ⟨t, ht, e⟩ := a2 f2 hx h
        exact absurd e (n2 t ht)
      · obtain ⟨t, ht, e⟩ := u4 f2 (by omega) (by omega)
        exact absurd e (n2 t (by omega))
  refine ⟨ef, ?_⟩
  rcases Nat.lt_trichotomy J1 J2 with h | h | h
  · have k1 := a6 (by omega)
    have k2 := b5 J1 (by omega) h
    omega
  · exact h
  · have k1 := b6 (by omega)
    by_cases ho : o ≤ J2
    · have k2 := a5 J2 ho h
      omega
    · have k2 := u3 J2 (by omega)
      omega

/-- A versions object at vb, its row whole at b. -/
def Ob (base : Nat) (w : World) (vb b T n : Nat) (V : Nat → Nat) : Prop :=
  base ≤ vb ∧ vb < w.heap.size ∧ base ≤ b ∧ b ≠ vb ∧ w.cell? ⟨vb, 0, none⟩ = some (.int .u64 T) ∧ w.cell? ⟨vb, 1, none⟩ = some (.slice (some ⟨b, 0, none⟩) n n) ∧ w.frozen? ⟨vb, 0, none⟩ = false ∧ w.frozen? ⟨vb, 1, none⟩ = false ∧ Rw w b V n

theorem Rw.block {w w' : World} {b n : Nat} {V : Nat → Nat} (h : Rw w b V n) (hs : w.heap.size ≤ w'.heap.size) (hb : w'.heap[b]? = w.heap[b]?) : Rw w' b V n :=
  ⟨Nat.lt_of_lt_of_le h.1 hs, fun t ht => by
    rw [World.cell?_of_block (w := w) (w' := w') (a := ⟨b, t * 4, none⟩) hb, World.cell?_of_block (w := w) (w' := w') (a := ⟨b, t * 4 + 1, none⟩) hb, World.cell?_of_block (w := w) (w' := w') (a := ⟨b, t * 4 + 2, none⟩) hb, World.cell?_of_block (w := w) (w' := w') (a := ⟨b, t * 4 + 3, none⟩) hb]
    exact h.2 t ht⟩

theorem Ob.block {base vb b T n : Nat} {w w' : World} {V : Nat → Nat} (h : Ob base w vb b T n V) (hs : w.heap.size ≤ w'.heap.size) (h1 : w'.heap[vb]? = w.heap[vb]?) (h2 : w'.heap[b]? = w.heap[b]?) : Ob base w' vb b T n V := by
  obtain ⟨a1, a2, a3, a4, a5, a6, a7, a8, a9⟩ := h
  exact ⟨a1, Nat.lt_of_lt_of_le a2 hs, a3, a4, (World.cell?_of_block (w := w) (w' := w') (a := ⟨vb, 0, none⟩) h1).trans a5, (World.cell?_of_block (w := w) (w' := w') (a := ⟨vb, 1, none⟩) h1).trans a6,
    (World.frozen?_of_block (w := w) (w' := w') (a := ⟨vb, 0, none⟩) h1).trans a7, (World.frozen?_of_block (w := w) (w' := w') (a := ⟨vb, 1, none⟩) h1).trans a8, a9.block hs h2⟩

theorem Ob.below {base vb b T n : Nat} {w w' : World} {V : Nat → Nat} (h : Ob base w vb b T n V) (hb : Below w.heap.size w w') : Ob base w' vb b T n V :=
  h.block hb.size (hb.block _ h.2.1) (hb.block _ h.2.2.2.2.2.2.2.2.1)

theorem Built.ob {w w' : World} {vb b th n : Nat} {V : Nat → Nat} (h : Built w w' vb b th n V) : Ob w.heap.size w' vb b th n V := h.2

theorem Ob.put {base vb b T n : Nat} {w : World} {V : Nat → Nat} (h : Ob base w vb b T n V) (r : Nat) : Ob base (w.setCell ⟨vb, 0, none⟩ (.int .u64 r)) vb b r n V := by
  obtain ⟨a1, a2, a3, a4, a5, a6, a7, a8, a9⟩ := h
  refine ⟨a1, by simpa using a2, a3, a4, World.cell?_setCell_same _ _ _ a5, ?_, by simpa using a7, by simpa using a8, a9.block (by simp) (Below.heap_setCell _ _ _ _ a4)⟩
  rw [World.cell?_setCell_other _ _ _ _ (by simp)]
  exact a6

/-- The two objects, apart, behind the old blocks. -/
def Two (w wx : World) (vb b wb c Tv Tw n : Nat) (V : Nat → Nat) : Prop :=
  Below w.heap.size w wx ∧ Ob w.heap.size wx vb b Tv n V ∧ Ob w.heap.size wx wb c Tw n V ∧ wb ≠ vb ∧ c ≠ vb ∧ b ≠ wb

theorem two_of {w w1 w2 : World} {vb b wb c th n : Nat} {V : Nat → Nat} (h1 : Built w w1 vb b th n V) (h2 : Built w1 w2 wb c th n V) : Two w w2 vb b wb c th th n V := by
  have s := h1.1.size
  have hb1 : b < w1.heap.size := h1.ob.2.2.2.2.2.2.2.2.1
  have o2 := h2.ob
  exact ⟨h1.1.trans (h2.1.mono s), h1.ob.below h2.1, ⟨by have := o2.1; omega, o2.2.1, by have := o2.2.2.1; omega, o2.2.2.2⟩, by have := h1.ob.2.1; have := o2.1; omega, by have := h1.ob.2.1; have := o2.2.2.1; omega, by have := o2.1; omega⟩

theorem Two.put {w wx : World} {vb b wb c Tv Tw n : Nat} {V : Nat → Nat} (h : Two w wx vb b wb c Tv Tw n V) (r : Nat) : Two w (wx.setCell ⟨wb, 0, none⟩ (.int .u64 r)) vb b wb c Tv r n V := by
  obtain ⟨h1, h2, h3, h4, h5, h6⟩ := h
  exact ⟨h1.setCell h3.1 _, h2.block (by simp) (Below.heap_setCell _ _ _ _ (by show vb ≠ wb; omega)) (Below.heap_setCell _ _ _ _ h6), h3.put r, h4, h5, h6⟩
end Go.Proofs.Ybulkbdpe
