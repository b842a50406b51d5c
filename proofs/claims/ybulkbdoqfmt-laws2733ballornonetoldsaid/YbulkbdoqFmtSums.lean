/-
  THE WALK of addSums.
-/
import Derived.Test.YbulkbdoqFmtHeap
import Derived.Deep.DeepCutAuto
import Derived.Deep.CutRange
import Derived.Deep.RegionHeld3
namespace Go.Proofs.YbulkbdoqFmt
open Go.RowKit Go.Extern.Stop Go.Stop Go.Extern

theorem info26 : (Ybaf.prog.info? 26).map (fun i => (i.zero, i.size, i.bytes)) = some (some (.agg #[.int .i64 0, .int .i64 0]), 2, 16) := by kernel_rfl

theorem owns_below {W wx : World} {base : Nat} {e : TypeId} {size : Nat} {v : Value} {n : Nat} {xs : List Value} (h : W.ownsRow base e size v n xs) (hb : Below W.heap.size W wx) : wx.ownsRow base e size v n xs := by
  refine ⟨h.1, ?_⟩
  rcases h.2 with h0 | ⟨g, cap, cur, hv, hg, hc, rest⟩
  · exact .inl h0
  · refine .inr ⟨g, cap, cur, hv, hg, ?_, rest⟩
    rw [hb.block g (Array.getElem?_eq_some_iff.1 hc).1]
    exact hc

theorem owns_slice {w : World} {base : Nat} {e : TypeId} {size : Nat} {v : Value} {n : Nat} {xs : List Value} (h : w.ownsRow base e size v (n + 1) xs) : ∃ g cap, v = .slice (some ⟨g, 0, none⟩) (n + 1) cap := by
  rcases h.2 with ⟨_, h0⟩ | ⟨g, cap, cur, hv, _⟩
  · omega
  · exact ⟨g, cap, hv⟩

theorem new_two (w : World) (x y : Value) (t : TypeId) (j : Nat) (u : Value) (h : [x, y][j]? = some u) : (w.alloc (.cells #[x, y] t)).cell? ((⟨w.heap.size, 0, none⟩ : Addr).add j) = some u := by
  rw [WideShapes.add_plain]
  have hc : (w.alloc (.cells #[x, y] t)).cell? ⟨w.heap.size, 0, none⟩ = some x ∧ (w.alloc (.cells #[x, y] t)).cell? ⟨w.heap.size, 1, none⟩ = some y := by go_simp
  match j, h with
  | 0, h => simp at h; subst h; exact hc.1
  | 1, h => simp at h; subst h; exact hc.2
  | j + 2, h => simp at h

theorem two_cells (w : World) (x y : Value) (t : TypeId) : (w.alloc (.cells #[x, y] t)).cell? ⟨w.heap.size, 0, none⟩ = some x ∧ (w.alloc (.cells #[x, y] t)).cell? ⟨w.heap.size, 1, none⟩ = some y := by go_simp

theorem four_cells (w : World) (x y z u : Value) (t : TypeId) : (w.alloc (.cells #[x, y, z, u] t)).cell? ⟨w.heap.size, 0, none⟩ = some x ∧ (w.alloc (.cells #[x, y, z, u] t)).cell? ⟨w.heap.size, 1, none⟩ = some y ∧ (w.alloc (.cells #[x, y, z, u] t)).cell? ⟨w.heap.size, 2, none⟩ = some z ∧ (w.alloc (.cells #[x, y, z, u] t)).cell? ⟨w.heap.size, 3, none⟩ = some u ∧
    (w.alloc (.cells #[x, y, z, u] t)).frozen? ⟨w.heap.size, 0, none⟩ = false := by go_simp

def Z10 : Array Value := Array.replicate 10 (.int .i64 0)
theorem make5 (w : World) : (Instr.makeSlice 24 (.int .i64 0) (.int .i64 5)).run Ybaf.prog w = .ok (.slice (some ⟨w.heap.size, 0, none⟩) 0 5) (w.alloc (.cells Z10 26)) := by kernel_rfl

set_option maxHeartbeats 1000000 in
theorem sums_any (F : Interp) (bss bs len n : Nat) (nm : Nat → ByteArray) (I : Nat → Nat) (X D : Nat → Int × Nat) (a0 : Addr) (s0 : ByteArray) (w : World) (hF : F.answers w.tape) (hlen : len ≤ 1024) (hI : ∀ i, i < len → I i < n)
    (hX : ∀ i, i < len → Good (X i)) (hD : ∀ i, i < n → Good (D i)) (hpow : Pows w) (hg : w.cell? ⟨0, 0, none⟩ = some (.iface 74 (.pointer (some a0)))) (hs : w.cell? a0 = some (.string s0))
    (hne : bss ≠ bs) (hss : w.rowIs bss 35 (len * 4) (sumRow bs nm I X)) (hsl : w.rowIs bs 26 (n * 2) (decRow D)) :
    Calls Ybaf.prog 6 #[.slice (some ⟨bss, 0, none⟩) len len] w fun e w' => Kept bs w w' ∧
      ((allFit D I X len ∧ e = .returned .nilIface ∧ w'.rowIs bs 26 (n * 2) (decRow (finD D I X len))) ∨
       (¬ allFit D I X len ∧ w'.rowIs bs 26 (n * 2) (decRow D) ∧ ∃ pb, e = .returned (.iface 62 (.pointer (some ⟨pb, 0, none⟩))) ∧ w'.cell? ⟨pb, 1, none⟩ = some (.iface 74 (.pointer (some a0))))) := by
  obtain ⟨inf, hi, hzz⟩ := Option.map_eq_some_iff.1 info26
  simp only [Prod.mk.injEq] at hzz
  obtain ⟨hz0, hz1, hz2⟩ := hzz
  go_enter Ybaf.func6, Ybaf.ntmps6
  have hmk := make5
  go_wp2_with fail
  go_loopg [3, 13] len (fun k v iv wr => ∃ (t g cap : Nat), t ≤ len ∧ k = len - t ∧ iv = .int .i64 t ∧ v = .slice (some ⟨g, 0, none⟩) t cap ∧ Below w.heap.size w wr ∧ Hid (allFit D I X t) ∧ wr.ownsRow w.heap.size 26 2 (.slice (some ⟨g, 0, none⟩) t cap) t (flatRes (resOf D I X) t))
  case atStart =>
    refine ⟨0, w.heap.size, 5, Nat.zero_le _, by omega, rfl, rfl, (Below.refl _ _).alloc (Nat.le_refl _) _, fun i hi => absurd hi (by omega), ?_⟩
    exact World.ownsRow_made w Z10 5 (Nat.le_refl _) (by decide) (by simp [Z10])
  case round =>
    obtain ⟨t, g, cap, ht, rfl, rfl, rfl, hbel, hfit, hown⟩ := hrel
    by_cases hlt : t < len
    · obtain ⟨c0, c1, c2, c3⟩ := sum_cells hss hlt
      obtain ⟨d0, d1, _, _⟩ := dec_cells hsl (hI t hlt)
      have hbss := hss.lt
      have hbs := hsl.lt
      rw [← hbel.cell (p := ⟨bss, t * 4, none⟩) hbss] at c0
      rw [← hbel.cell (p := ⟨bss, t * 4 + 1, none⟩) hbss] at c1
      rw [← hbel.cell (p := ⟨bss, t * 4 + 2, none⟩) hbss] at c2
      rw [← hbel.cell (p := ⟨bss, t * 4 + 3, none⟩) hbss] at c3
      rw [← hbel.cell (p := ⟨bs, I t * 2, none⟩) hbs] at d0
      rw [← hbel.cell (p := ⟨bs, I t * 2 + 1, none⟩) hbs] at d1
      cases hsum : sumOf (D (I t)) (X t) with
      | none =>
        have Hsum : Hid (sumOf (D (I t)) (X t) = none) := hsum
        have Hnf : Hid (¬ allFit D I X len) := fun h => by have := h t hlt; rw [hsum] at this; cases this
        clear hsum
        have hgd := hD _ (hI t hlt)
        have hgx := hX t hlt
        generalize D (I t) = d at *
        generalize X t = x at *
        generalize nm t = nmt at *
        go_upto_region 5 with fail
        have hB := hbel.alloc hbel.size (.cells #[.string nmt, .pointer (some ⟨bs, I t * 2, none⟩), .int .i64 x.1, .int .i64 (x.2 : Int)] 35)
        have hpw := hpow.below hB hpow.1
        have q := four_cells wr (.string nmt) (.pointer (some ⟨bs, I t * 2, none⟩)) (.int .i64 x.1) (.int .i64 (x.2 : Int)) 35
        have hsz : (wr.alloc (.cells #[.string nmt, .pointer (some ⟨bs, I t * 2, none⟩), .int .i64 x.1, .int .i64 (x.2 : Int)] 35)).heap.size = wr.heap.size + 1 := by simp
        have e0 : (wr.alloc (.cells #[.string nmt, .pointer (some ⟨bs, I t * 2, none⟩), .int .i64 x.1, .int .i64 (x.2 : Int)] 35)).cell? ⟨bs, I t * 2, none⟩ = some (.int .i64 d.1) := by rw [World.cell?_alloc_past _ _ _ (by have := hbel.size; omega)]; exact d0
        have e1 : (wr.alloc (.cells #[.string nmt, .pointer (some ⟨bs, I t * 2, none⟩), .int .i64 x.1, .int .i64 (x.2 : Int)] 35)).cell? ⟨bs, I t * 2 + 1, none⟩ = some (.int .i64 (d.2 : Int)) := by rw [World.cell?_alloc_past _ _ _ (by have := hbel.size; omega)]; exact d1
        have hownW := hown.alloc (.cells #[.string nmt, .pointer (some ⟨bs, I t * 2, none⟩), .int .i64 x.1, .int .i64 (x.2 : Int)] 35)
        generalize wr.alloc (.cells #[.string nmt, .pointer (some ⟨bs, I t * 2, none⟩), .int .i64 x.1, .int .i64 (x.2 : Int)] 35) = W at *
        have HS : Hid (∀ w', Below W.heap.size W w' → Below W.heap.size W w' ∧ w'.cell? ⟨wr.heap.size, 1, none⟩ = some (.pointer (some ⟨bs, I t * 2, none⟩)) ∧ w'.cell? ⟨wr.heap.size, 2, none⟩ = some (.int .i64 x.1) ∧ w'.cell? ⟨wr.heap.size, 3, none⟩ = some (.int .i64 (x.2 : Int)) ∧ w'.cell? ⟨bs, I t * 2, none⟩ = some (.int .i64 d.1) ∧ w'.cell? ⟨bs, I t * 2 + 1, none⟩ = some (.int .i64 (d.2 : Int))) := by
          intro w' h
          have hwr : wr.heap.size < W.heap.size := by omega
          have hbl : bs < W.heap.size := by have := hbel.size; omega
          exact ⟨h, (h.cell (p := ⟨wr.heap.size, 1, none⟩) hwr).trans q.2.1, (h.cell (p := ⟨wr.heap.size, 2, none⟩) hwr).trans q.2.2.1, (h.cell (p := ⟨wr.heap.size, 3, none⟩) hwr).trans q.2.2.2.1, (h.cell (p := ⟨bs, I t * 2, none⟩) hbl).trans e0, (h.cell (p := ⟨bs, I t * 2 + 1, none⟩) hbl).trans e1⟩
        have HP : Hid (∀ w', Below W.heap.size W w' → Pows w') := fun w' h => hpw.below h hpw.1
        have HI : Hid (Ybaf.prog.info? 26 = some inf ∧ inf.zero = some (Value.agg #[.int .i64 0, .int .i64 0]) ∧ inf.size = 2 ∧ inf.bytes = 16) := ⟨hi, hz0, hz1, hz2⟩
        have HG : Hid (∀ w', Below W.heap.size W w' → w'.cell? ⟨0, 0, none⟩ = some (.iface 74 (.pointer (some a0)))) := fun w' h => by rw [h.cell (p := ⟨0, 0, none⟩) (by show 0 < W.heap.size; omega), hB.cell (p := ⟨0, 0, none⟩) (by show 0 < w.heap.size; have := hpow.1; omega)]; exact hg
        clear c0 c1 c2 c3 d0 d1 e0 e1 hbss hown hi hz0 hz1 hz2 hmk
        go_cut [6, 7] from 17 to 26 (fun u6 u7 wx => ∃ g6 : Nat, u6 = .pointer (some ⟨g6, 0, none⟩) ∧ u7 = .iface 74 (.pointer (some a0)) ∧ W.heap.size ≤ g6 ∧ Below W.heap.size W wx)
        case first =>
          go_region_held3 (fun w' => Below W.heap.size W w' ∧ w'.cell? ⟨wr.heap.size, 1, none⟩ = some (.pointer (some ⟨bs, I t * 2, none⟩)) ∧ w'.cell? ⟨wr.heap.size, 2, none⟩ = some (.int .i64 x.1) ∧ w'.cell? ⟨wr.heap.size, 3, none⟩ = some (.int .i64 (x.2 : Int)) ∧ w'.cell? ⟨bs, I t * 2, none⟩ = some (.int .i64 d.1) ∧ w'.cell? ⟨bs, I t * 2 + 1, none⟩ = some (.int .i64 (d.2 : Int)))
            ((first
              | (refine HS.out _ ?_; exact (Below.refl _ _).drew)
              | (refine HS.out _ ?_; exact hb3W)
              | (refine HS.out _ ?_; exact hb3W.alloc hb3W.size _)
              | (refine HS.out _ ?_; exact (Below.refl _ _).drew.alloc (Nat.le_refl _) _)
              | (refine HS.out _ ?_; exact (hb3W.setCell (Nat.le_of_eq hsz) _).setCell (Nat.le_of_eq hsz) _)
              | (trace_state; fail)))
            ((go_at_call 5; refine (add_none d x 74 a0 _ hgd hgx ?_ ?_ Hsum.out).mono ?_; exact HP.out _ (And.left (by assumption)); exact HG.out _ (And.left (by assumption)); rintro e w3 ⟨rfl, hb3⟩; obtain ⟨hc3, hf3⟩ := bcell hb3; have hb3W : Below W.heap.size W w3 := Below.trans (And.left (by assumption)) (Below.mono hb3 (Below.size (And.left (by assumption))))))
          all_goals
            go_wp2_with fail
            go_meet
            case rel =>
              first
                | exact ⟨_, rfl, rfl, Nat.le_of_eq hsz, (hb3W.setCell (Nat.le_of_eq hsz) _).setCell (Nat.le_of_eq hsz) _⟩
                | exact ⟨_, rfl, rfl, hb3W.size, hb3W.alloc hb3W.size _⟩
        case rest =>
          obtain ⟨g6, rfl, rfl, hg6, hbx⟩ := hcut
          have hws := hbel.size
          have hwx := hbx.size
          have hnm : wc.cell? ⟨wr.heap.size, 0, none⟩ = some (.string nmt) := (hbx.cell (p := ⟨wr.heap.size, 0, none⟩) (by show wr.heap.size < W.heap.size; omega)).trans q.1
          have hbw : Below w.heap.size w wc := hB.trans (hbx.mono (by omega))
          have hal : Below w.heap.size w (wc.alloc (.cells #[.iface 9 (.string nmt), .iface 74 (.pointer (some a0))] 20)) := hbw.alloc (by omega) _
          have hF2 : F.answers (wc.alloc (.cells #[.iface 9 (.string nmt), .iface 74 (.pointer (some a0))] 20)).tape := by rw [hal.tape]; exact hF
          have hs2 : (wc.alloc (.cells #[.iface 9 (.string nmt), .iface 74 (.pointer (some a0))] 20)).cell? a0 = some (.string s0) := by rw [hal.cell (World.block_lt_of_cell? w a0 hs)]; exact hs
          have hn2 := two_cells wc (.iface 9 (.string nmt)) (.iface 74 (.pointer (some a0))) 20
          go_wp2_with fail
          refine (errorf_wrap F nmt s0 wc.heap.size a0 _ hF2 hn2.1 hn2.2 hs2).mono ?_
          rintro e w5 ⟨pb, rfl, hpb, hb5, hcell5⟩
          have hfin : Below w.heap.size w w5 := hal.trans (hb5.mono (by simp; omega))
          clear hF2 hs2 hn2 hb5
          go_wp2
          go_ret
          exact ⟨Kept.of_below hfin, Or.inr ⟨Hnf.out, hsl.of_block (hfin.block bs hbs), pb, rfl, hcell5⟩⟩
      | some r =>
        have Hsum : Hid (sumOf (D (I t)) (X t) = some r) := hsum
        have Hfit' : Hid (allFit D I X (t + 1)) := allFit_succ hfit.out hsum
        have Hres : Hid (resOf D I X t = r) := resOf_some hsum
        clear hsum
        have hgd := hD _ (hI t hlt)
        have hgx := hX t hlt
        generalize D (I t) = d at *
        generalize X t = x at *
        generalize nm t = nmt at *
        go_upto_region 5 with fail
        have hB := hbel.alloc hbel.size (.cells #[.string nmt, .pointer (some ⟨bs, I t * 2, none⟩), .int .i64 x.1, .int .i64 (x.2 : Int)] 35)
        have hpw := hpow.below hB hpow.1
        have q := four_cells wr (.string nmt) (.pointer (some ⟨bs, I t * 2, none⟩)) (.int .i64 x.1) (.int .i64 (x.2 : Int)) 35
        have hsz : (wr.alloc (.cells #[.string nmt, .pointer (some ⟨bs, I t * 2, none⟩), .int .i64 x.1, .int .i64 (x.2 : Int)] 35)).heap.size = wr.heap.size + 1 := by simp
        have e0 : (wr.alloc (.cells #[.string nmt, .pointer (some ⟨bs, I t * 2, none⟩), .int .i64 x.1, .int .i64 (x.2 : Int)] 35)).cell? ⟨bs, I t * 2, none⟩ = some (.int .i64 d.1) := by rw [World.cell?_alloc_past _ _ _ (by have := hbel.size; omega)]; exact d0
        have e1 : (wr.alloc (.cells #[.string nmt, .pointer (some ⟨bs, I t * 2, none⟩), .int .i64 x.1, .int .i64 (x.2 : Int)] 35)).cell? ⟨bs, I t * 2 + 1, none⟩ = some (.int .i64 (d.2 : Int)) := by rw [World.cell?_alloc_past _ _ _ (by have := hbel.size; omega)]; exact d1
        have hownW := hown.alloc (.cells #[.string nmt, .pointer (some ⟨bs, I t * 2, none⟩), .int .i64 x.1, .int .i64 (x.2 : Int)] 35)
        generalize wr.alloc (.cells #[.string nmt, .pointer (some ⟨bs, I t * 2, none⟩), .int .i64 x.1, .int .i64 (x.2 : Int)] 35) = W at *
        have HS : Hid (∀ w', Below W.heap.size W w' → Below W.heap.size W w' ∧ w'.cell? ⟨wr.heap.size, 1, none⟩ = some (.pointer (some ⟨bs, I t * 2, none⟩)) ∧ w'.cell? ⟨wr.heap.size, 2, none⟩ = some (.int .i64 x.1) ∧ w'.cell? ⟨wr.heap.size, 3, none⟩ = some (.int .i64 (x.2 : Int)) ∧ w'.cell? ⟨bs, I t * 2, none⟩ = some (.int .i64 d.1) ∧ w'.cell? ⟨bs, I t * 2 + 1, none⟩ = some (.int .i64 (d.2 : Int))) := by
          intro w' h
          have hwr : wr.heap.size < W.heap.size := by omega
          have hbl : bs < W.heap.size := by have := hbel.size; omega
          exact ⟨h, (h.cell (p := ⟨wr.heap.size, 1, none⟩) hwr).trans q.2.1, (h.cell (p := ⟨wr.heap.size, 2, none⟩) hwr).trans q.2.2.1, (h.cell (p := ⟨wr.heap.size, 3, none⟩) hwr).trans q.2.2.2.1, (h.cell (p := ⟨bs, I t * 2, none⟩) hbl).trans e0, (h.cell (p := ⟨bs, I t * 2 + 1, none⟩) hbl).trans e1⟩
        have HP : Hid (∀ w', Below W.heap.size W w' → Pows w') := fun w' h => hpw.below h hpw.1
        have HI : Hid (Ybaf.prog.info? 26 = some inf ∧ inf.zero = some (Value.agg #[.int .i64 0, .int .i64 0]) ∧ inf.size = 2 ∧ inf.bytes = 16) := ⟨hi, hz0, hz1, hz2⟩
        clear c0 c1 c2 c3 d0 d1 q e0 e1 hbss hown hi hz0 hz1 hz2 hmk
        go_cut [6, 7] from 17 to 26 (fun u6 u7 wx => ∃ g6 : Nat, u6 = .pointer (some ⟨g6, 0, none⟩) ∧ u7 = .nilIface ∧ W.heap.size ≤ g6 ∧ Below W.heap.size W wx ∧ wx.cell? ⟨g6, 0, none⟩ = some (.int .i64 r.1) ∧ wx.cell? ⟨g6, 1, none⟩ = some (.int .i64 (r.2 : Int)))
        case first =>
          go_region_held3 (fun w' => Below W.heap.size W w' ∧ w'.cell? ⟨wr.heap.size, 1, none⟩ = some (.pointer (some ⟨bs, I t * 2, none⟩)) ∧ w'.cell? ⟨wr.heap.size, 2, none⟩ = some (.int .i64 x.1) ∧ w'.cell? ⟨wr.heap.size, 3, none⟩ = some (.int .i64 (x.2 : Int)) ∧ w'.cell? ⟨bs, I t * 2, none⟩ = some (.int .i64 d.1) ∧ w'.cell? ⟨bs, I t * 2 + 1, none⟩ = some (.int .i64 (d.2 : Int)))
            ((first
              | (refine HS.out _ ?_; exact (Below.refl _ _).drew)
              | (refine HS.out _ ?_; exact hb3W)
              | (refine HS.out _ ?_; exact hb3W.alloc hb3W.size _)
              | (refine HS.out _ ?_; exact (Below.refl _ _).drew.alloc (Nat.le_refl _) _)
              | (refine HS.out _ ?_; exact (hb3W.setCell (Nat.le_of_eq hsz) _).setCell (Nat.le_of_eq hsz) _)
              | (trace_state; fail)))
            ((go_at_call 5; refine (add_some d x r _ hgd hgx ?_ Hsum.out).mono ?_; exact HP.out _ (And.left (by assumption)); rintro e w3 ⟨rfl, hb3⟩; obtain ⟨hc3, hf3⟩ := bcell hb3; have hb3W : Below W.heap.size W w3 := Below.trans (And.left (by assumption)) (Below.mono hb3 (Below.size (And.left (by assumption))))))
          all_goals
            go_wp2_with fail
            go_meet
            case rel =>
              first
                | exact ⟨_, rfl, rfl, Nat.le_of_eq hsz, (hb3W.setCell (Nat.le_of_eq hsz) _).setCell (Nat.le_of_eq hsz) _, by go_simp, by go_simp⟩
                | exact ⟨_, rfl, rfl, hb3W.size, hb3W.alloc hb3W.size _, by go_simp, by go_simp⟩
        case rest =>
          obtain ⟨g6, rfl, rfl, hg6, hbx, x0, x1⟩ := hcut
          obtain ⟨hi, hz0, hz1, hz2⟩ := HI.out
          have hownx := owns_below hownW hbx
          have hws := hbel.size
          have hwx := hbx.size
          go_wp2_with (at_builtin; go_loud (refine wpList_append_own _ rfl _ _ 24 rfl w.heap.size 26 inf _ 2 16 Ybaf.underlying24 hi hz0 hz1 hz2 rfl (by decide) _ t (flatRes (resOf D I X) t) rfl (hownx.alloc _) ⟨wc.heap.size, 0, none⟩ 1 1 [.int .i64 r.1, .int .i64 (r.2 : Int)] rfl rfl (new_two _ _ _ _) (fun u hu => by simp at hu; rcases hu with rfl | rfl <;> rfl) (by unfold maxLen; omega) (by omega) (by have := hbx.size; simp; omega) ?_); intro v' w' hown' hgr hiff)
          obtain ⟨g', cap', hv'⟩ := owns_slice hown'
          subst hv'
          go_wp2
          go_roundg (len - (t + 1))
          case measure => omega
          case rel =>
            refine ⟨t + 1, g', cap', by omega, rfl, by go_num, rfl, ?_, ?_, ?_⟩
            · exact ((hB.trans (hbx.mono (by omega))).alloc (by omega) _).grown hgr (by simp; omega) (fun k hk => (hownx.lt k hk).1)
            · exact Hfit'.out
            · show w'.ownsRow w.heap.size 26 2 (.slice (some ⟨g', 0, none⟩) (t + 1) cap') (t + 1) (flatRes (resOf D I X) t ++ [.int .i64 (resOf D I X t).1, .int .i64 ((resOf D I X t).2 : Int)])
              rw [Hres.out]
              exact hown'
    · obtain rfl : t = len := by omega
      obtain ⟨w1, rfl⟩ : ∃ w1 : World, w1 = wr := ⟨_, rfl⟩
      have HR : Hid (∀ i, i < t → w1.cell? ⟨g, i * 2, none⟩ = some (.int .i64 (resOf D I X i).1) ∧ w1.cell? ⟨g, i * 2 + 1, none⟩ = some (.int .i64 ((resOf D I X i).2 : Int))) := by
        intro i hil
        have hr := flatRes_at (resOf D I X) t i (by omega)
        exact ⟨(hown.cellAt (i * 2) (by omega)).trans hr.1, (hown.cellAt (i * 2 + 1) (by omega)).trans hr.2⟩
      have hgl := (hown.lt g rfl)
      have hbss := hss.lt
      have hbs := hsl.lt
      clear hi hz0 hz1 hz2 hmk
      go_wp2_with fail
      go_loopg [42] t (fun k iv wr => ∃ u : Nat, u ≤ t ∧ k = t - u ∧ iv = .int .i64 u ∧ Kept bs w1 wr ∧ wr.rowIs bs 26 (n * 2) (decRow (finD D I X u)))
      case atStart => exact ⟨0, Nat.zero_le _, by omega, rfl, Kept.refl _ _, hsl.of_block (hbel.block bs hbs)⟩
      case round =>
        obtain ⟨u, hu, rfl, rfl, hkept, hrow⟩ := hrel
        by_cases hul : u < t
        · obtain ⟨c0, c1, c2, c3⟩ := sum_cells (hkept.row (hss.of_block (hbel.block bss hbss)) hne) hul
          obtain ⟨d0, d1, f0, f1⟩ := dec_cells hrow (hI u hul)
          obtain ⟨r0, r1⟩ := HR.out u hul
          have hgne : g ≠ bs := by omega
          have r0' : wr.cell? ⟨g, u * 2, none⟩ = some (.int .i64 (resOf D I X u).1) := (World.cell?_of_block (w := w1) (hkept.block g hgl.2 hgne)).trans r0
          have r1' : wr.cell? ⟨g, u * 2 + 1, none⟩ = some (.int .i64 ((resOf D I X u).2 : Int)) := (World.cell?_of_block (w := w1) (hkept.block g hgl.2 hgne)).trans r1
          have hgw : g < wr.heap.size := Nat.lt_of_lt_of_le hgl.2 hkept.size
          have hbw : bs < wr.heap.size := hrow.lt
          have hres : decRow (finD D I X (u + 1)) = decRow (updD (finD D I X u) (I u) (resOf D I X u)) := rfl
          have Hres : Hid _ := hres
          clear r0 r1 hres
          generalize resOf D I X u = rr at *
          generalize X u = x at *
          generalize nm u = nmu at *
          go_wp2_with fail
          go_region
          all_goals
            go_wp2
            go_roundg (t - (u + 1))
            case measure => omega
            case rel =>
              refine ⟨u + 1, by omega, rfl, by go_num, ?_, ?_⟩
              · repeat (first | exact hkept | apply Kept.drew | apply Kept.setCell | apply Kept.alloc)
              · rw [Hres.out]
                exact (dec_set hrow (I u) rr).alloc _
        · obtain rfl : u = t := by omega
          go_wp2
          go_ret
          exact ⟨(Kept.of_below hbel).trans hkept, Or.inl ⟨hfit.out, rfl, hrow⟩⟩
end Go.Proofs.YbulkbdoqFmt
