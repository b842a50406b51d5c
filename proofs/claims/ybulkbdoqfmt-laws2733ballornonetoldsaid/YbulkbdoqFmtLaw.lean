/-
  THE LAW's OWN WALK.
-/
import Derived.Test.YbulkbdoqFmtState
namespace Go.Proofs.YbulkbdoqFmt
open Go.RowKit Go.Extern.Stop Go.Stop Go.Extern

set_option maxRecDepth 100000 in
set_option maxHeartbeats 2000000 in
theorem law_main (F : Interp) (x1 : Option Addr) (len1 cap1 : Nat) (TC TP : Nat → Int) (x2 : Option Addr) (len2 cap2 : Nat) (SS SC SP : Nat → Int) (SN : Nat → ByteArray) (n : Nat) (a0 : Addr) (s0 : ByteArray) (w : World) (hF : F.answers w.tape)
    (hl1 : len1 ≤ 1024) (hl2 : len2 ≤ 1024) (hn : n = if len1 = 0 then 1 else len1) (ht : IsTots w x1 len1 TC TP) (hsu : IsSums w x2 len2 SS SC SP SN) (hpow : Pows w) (hg : w.cell? ⟨0, 0, none⟩ = some (.iface 74 (.pointer (some a0)))) (hs : w.cell? a0 = some (.string s0)) :
    Calls Ybaf.prog 3 #[.slice x1 len1 cap1, .slice x2 len2 cap2] w fun e w' => e = .returned (.bool true) ∧ Below w.heap.size w w' := by
  have HT : Hid (IsTots w x1 len1 TC TP) := ht
  have HU : Hid (IsSums w x2 len2 SS SC SP SN) := hsu
  have hn1 : 1 ≤ n := by rw [hn]; split <;> omega
  have hn2 : n ≤ 1024 := by rw [hn]; split <;> omega
  have hn3 : len1 ≤ n := by rw [hn]; split <;> omega
  have k1 : ¬ ((1024 : Int) < (len1 : Int)) := by omega
  have k2 : ¬ ((1024 : Int) < (len2 : Int)) := by omega
  have HN : Hid (n = if len1 = 0 then 1 else len1) := hn
  have hmk := make24 n hn2
  have hmk2 := make30 len2 hl2
  clear ht hsu hn
  go_enter Ybaf.func3, Ybaf.ntmps3
  go_upto_if 29 with fail
  go_cut [5] from 18 to 31 (fun v wx => v = .int .i64 (n : Int) ∧ w = wx)
  case first =>
    by_cases h0 : len1 = 0
    · have e := HN.out
      rw [if_pos h0] at e
      subst e
      subst h0
      go_wp2
      go_meet
      case rel => exact ⟨rfl, rfl⟩
    · have e := HN.out
      rw [if_neg h0] at e
      have hb : ((len1 : Int) == 0) = false := by rw [beq_eq_false_iff_ne]; omega
      subst e
      go_wp2
      go_meet
      case rel => exact ⟨rfl, rfl⟩
  case rest =>
    obtain ⟨rfl, rfl⟩ := hcut
    go_wp2_with fail
    go_loopg [7] len1 (fun k iv wr => ∃ t : Nat, t ≤ len1 ∧ k = len1 - t ∧ iv = .int .i64 t ∧ Below w.heap.size w wr ∧ wr.rowIs w.heap.size 26 (n * 2) (decRow (totD TC TP t)))
    case atStart =>
      refine ⟨0, Nat.zero_le _, by omega, rfl, (Below.refl _ _).alloc (Nat.le_refl _) _, ?_⟩
      exact Zrow_row w n
    case round =>
      obtain ⟨t, htl, rfl, rfl, hbel, hrow⟩ := hrel
      by_cases hlt : t < len1
      · obtain ⟨b, off, rfl, hb, hcs⟩ := HT.out (by omega)
        obtain ⟨hp0, hp1, c0, c1⟩ := hcs t hlt
        rw [← hbel.cell (p := ⟨b, off + t * 2, none⟩) hb] at c0
        rw [← hbel.cell (p := ⟨b, off + t * 2 + 1, none⟩) hb] at c1
        obtain ⟨d0, d1, f0, f1⟩ := dec_cells hrow (show t < n by omega)
        have Hrow : Hid (wr.rowIs w.heap.size 26 (n * 2) (decRow (totD TC TP t))) := hrow
        have Hsucc : Hid _ := totD_succ TC TP t
        clear hcs hrow
        generalize TC t = tc at *
        generalize TP t = tp at *
        generalize totD TC TP t t = dd at *
        have hws := hbel.size
        have htn : t < n := by omega
        have htn' : (t : Int) < (n : Int) := by omega
        have hbw : b < wr.heap.size := by omega
        have hNw : w.heap.size < wr.heap.size := Hrow.out.lt
        have HS : Hid (∀ w', Kept w.heap.size wr w' → Kept w.heap.size wr w' ∧ w'.cell? ⟨b, off + t * 2, none⟩ = some (.int .i64 tc) ∧ w'.cell? ⟨b, off + t * 2 + 1, none⟩ = some (.int .u8 tp)) :=
          fun w' h => ⟨h, (World.cell?_of_block (w := wr) (a := ⟨b, off + t * 2, none⟩) (h.block b hbw (by omega))).trans c0, (World.cell?_of_block (w := wr) (a := ⟨b, off + t * 2 + 1, none⟩) (h.block b hbw (by omega))).trans c1⟩
        go_upto_region 10 with fail
        go_region_held3 (fun w' => Kept w.heap.size wr w' ∧ w'.cell? ⟨b, off + t * 2, none⟩ = some (.int .i64 tc) ∧ w'.cell? ⟨b, off + t * 2 + 1, none⟩ = some (.int .u8 tp))
          ((first
            | (refine HS.out _ ?_; exact (Kept.refl _ _).drew)
            | (refine HS.out _ ?_; exact hk3)
            | (refine HS.out _ ?_; exact (hk3.setCell _ _).setCell _ _)))
          ((go_at_call 4; refine (mk_any tc tp _ hp0 hp1).mono ?_; rintro e w3 ⟨rfl, hb3⟩; have hk3 : Kept w.heap.size wr w3 := Kept.trans (Kept.drew (Kept.refl _ _)) (Kept.of_below hb3); have q0 := (hb3.cell (p := ⟨w.heap.size, t * 2, none⟩) hNw).trans d0; have q1 := (hb3.cell (p := ⟨w.heap.size, t * 2 + 1, none⟩) hNw).trans d1; have g0 := (hb3.frozen (p := ⟨w.heap.size, t * 2, none⟩) hNw).trans f0; have g1 := (hb3.frozen (p := ⟨w.heap.size, t * 2 + 1, none⟩) hNw).trans f1))
        all_goals
          go_wp2_with fail
          go_roundg (len1 - (t + 1))
          case measure => omega
          case rel =>
            refine ⟨t + 1, by omega, rfl, by go_num, ?_, ?_⟩
            · exact ((hbel.drew.trans (hb3.mono hws)).setCell (Nat.le_refl _) _).setCell (Nat.le_refl _) _
            · rw [Hsucc.out]
              exact dec_set (Hrow.out.of_block (hb3.block w.heap.size hNw)) t (mkD tc tp)
      · obtain rfl : t = len1 := by omega
        obtain ⟨wa, rfl⟩ : ∃ wa : World, wa = wr := ⟨_, rfl⟩
        have hgood := totD_good TC TP t
        generalize totD TC TP t = D at *
        have hcp1 := fun ty => copy_new wa ty w.heap.size n D hrow
        have hcp2 := fun ty => copy_new (wa.alloc (.cells (arrOf (decRow D) (n * 2)) 26)) ty w.heap.size n D (hrow.alloc _)
        have hsz1 : (wa.alloc (.cells (arrOf (decRow D) (n * 2)) 26)).heap.size = wa.heap.size + 1 := by simp
        rw [hsz1] at hcp2
        have hbo : w.heap.size < wa.heap.size := hrow.lt
        obtain ⟨I, hI⟩ : ∃ I : Nat → Nat, I = fun i => (SS i).toNat % n := ⟨_, rfl⟩
        obtain ⟨X, hX⟩ : ∃ X : Nat → Int × Nat, X = fun i => mkD (SC i) (SP i) := ⟨_, rfl⟩
        have hst := St.start (len := len2) hbel hrow SN I X
        have HI : Hid (I = fun i => (SS i).toNat % n) := hI
        have HX : Hid (X = fun i => mkD (SC i) (SP i)) := hX
        clear hI hX
        go_wp2_with fail
        clear hcp1 hcp2 hsz1 hmk hmk2 hrow HT HN
        go_loopg [11, 12] len2 (fun k fv iv wr => ∃ (u : Nat) (ff : Bool) (E : Nat → Int × Nat), u ≤ len2 ∧ k = len2 - u ∧ fv = .bool ff ∧ iv = .int .i64 u ∧ St w wr w.heap.size wa.heap.size n len2 D E (partRow w.heap.size len2 SN I X u) ∧ Hid ((ff = false → allFit D I X u ∧ E = finD D I X u) ∧ (ff = true → ¬ allFit D I X len2)))
        case atStart =>
          exact ⟨0, false, D, Nat.zero_le _, by omega, rfl, rfl, hst, fun _ => ⟨fun i hi => absurd hi (by omega), rfl⟩, fun h => by cases h⟩
        case round =>
          clear hst
          obtain ⟨u, ff, E, hu, rfl, rfl, rfl, hst, hff⟩ := hrel
          by_cases hul : u < len2
          · obtain ⟨b, off, rfl, hb, hcs⟩ := HU.out (by omega)
            obtain ⟨hs0, hs1, hp0, hp1, c0, c1, c2, c3⟩ := hcs u hul
            rw [← hst.bel.cell (p := ⟨b, off + u * 4, none⟩) hb] at c0
            rw [← hst.bel.cell (p := ⟨b, off + u * 4 + 1, none⟩) hb] at c1
            rw [← hst.bel.cell (p := ⟨b, off + u * 4 + 2, none⟩) hb] at c2
            rw [← hst.bel.cell (p := ⟨b, off + u * 4 + 3, none⟩) hb] at c3
            have hIu : I u = (SS u).toNat % n := congrFun HI.out u
            have hXu : X u = mkD (SC u) (SP u) := congrFun HX.out u
            have hIn : I u < n := by rw [hIu]; exact Nat.mod_lt _ (by omega)
            have hidx : SS u % (n : Int) = ((I u : Nat) : Int) := by
              obtain ⟨z, hz⟩ := Int.eq_ofNat_of_zero_le hs0
              rw [hIu, hz, Int.toNat_natCast, Int.natCast_emod]
            have HXu : Hid (X u = mkD (SC u) (SP u)) := hXu
            clear hcs hIu hXu
            have hws := hst.bel.size
            have hbw : b < wr.heap.size := by omega
            have HS1 : Hid (∀ wx, St w wx w.heap.size wa.heap.size n len2 D E (partRow w.heap.size len2 SN I X u) → St w ((((wx.setCell ⟨wa.heap.size + 1 + 1, u * 4, none⟩ (.string (SN u))).setCell ⟨wa.heap.size + 1 + 1, u * 4 + 1, none⟩ (.pointer (some ⟨w.heap.size, I u * 2, none⟩))).setCell ⟨wa.heap.size + 1 + 1, u * 4 + 2, none⟩ (.int .i64 (X u).1)).setCell ⟨wa.heap.size + 1 + 1, u * 4 + 3, none⟩ (.int .i64 ((X u).2 : Int))) w.heap.size wa.heap.size n len2 D E (partRow w.heap.size len2 SN I X (u + 1))) :=
              fun wx h => h.setS (Nat.le_refl _) hbo
            have Hnone : Hid (sumOf (D (I u)) (X u) = none → ¬ allFit D I X len2) := fun hsum h => by have := h u hul; rw [hsum] at this; cases this
            have Hsome : Hid (∀ r, sumOf (D (I u)) (X u) = some r → ff = false → allFit D I X (u + 1) ∧ updD E (I u) r = finD D I X (u + 1)) := fun r hsum hf => by
              obtain ⟨h1, h2⟩ := hff.out.1 hf
              refine ⟨allFit_succ h1 hsum, ?_⟩
              rw [h2, ← resOf_some hsum]
              rfl
            have hdg := hgood (I u)
            have hxg : Good (X u) := by rw [HXu.out]; exact mkD_good _ _
            generalize hXX : X u = x at *
            clear hXX
            generalize hII : I u = ix at *
            clear hII
            generalize hSC : SC u = sc at *
            clear hSC
            generalize hSP : SP u = sp at *
            clear hSP
            generalize hSN : SN u = nmu at *
            clear hSN
            generalize hSS : SS u = sz at *
            clear hSS
            have HS : Hid (∀ w', Below wr.heap.size wr w' → Below wr.heap.size wr w' ∧ w'.cell? ⟨b, off + u * 4 + 1, none⟩ = some (.int .i64 sc) ∧ w'.cell? ⟨b, off + u * 4 + 2, none⟩ = some (.int .u8 sp)) :=
              fun w' h => ⟨h, (h.cell (p := ⟨b, off + u * 4 + 1, none⟩) hbw).trans c1, (h.cell (p := ⟨b, off + u * 4 + 2, none⟩) hbw).trans c2⟩
            go_upto_region 21 with fail
            go_cut [13, 14] from 71 to 89 (fun v13 v14 wx => ∃ g14 : Nat, v13 = .int .i64 (ix : Int) ∧ v14 = .pointer (some ⟨g14, 0, none⟩) ∧ wr.heap.size ≤ g14 ∧ Below wr.heap.size wr wx ∧ wx.cell? ⟨g14, 0, none⟩ = some (.int .i64 x.1) ∧ wx.cell? ⟨g14, 1, none⟩ = some (.int .i64 (x.2 : Int)))
            case first =>
              go_region_held3 (fun w' => Below wr.heap.size wr w' ∧ w'.cell? ⟨b, off + u * 4 + 1, none⟩ = some (.int .i64 sc) ∧ w'.cell? ⟨b, off + u * 4 + 2, none⟩ = some (.int .u8 sp))
                ((first
                  | (refine HS.out _ ?_; exact (Below.refl _ _).drew)
                  | (refine HS.out _ ?_; exact hb3W)
                  | (refine HS.out _ ?_; exact hb3W.alloc hb3W.size _)
                  | (refine HS.out _ ?_; exact (Below.refl _ _).drew.alloc (Nat.le_refl _) _)
                  | (refine HS.out _ ?_; exact (hb3W.setCell (Nat.le_refl _) _).setCell (Nat.le_refl _) _)))
                ((go_at_call 4; refine (mk_any sc sp _ hp0 hp1).mono ?_; rintro e w3 ⟨rfl, hb3⟩; rw [← HXu.out]; obtain ⟨hc3, hf3⟩ := bcell hb3; have hb3W : Below wr.heap.size wr w3 := Below.trans (And.left (by assumption)) (Below.mono hb3 (Below.size (And.left (by assumption))))))
              all_goals
                go_wp2_with fail
                go_meet
                case rel =>
                  first
                    | exact ⟨_, rfl, rfl, Nat.le_refl _, (hb3W.setCell (Nat.le_refl _) _).setCell (Nat.le_refl _) _, by go_simp, by go_simp⟩
                    | exact ⟨_, rfl, rfl, hb3W.size, hb3W.alloc hb3W.size _, by go_simp, by go_simp⟩
            case rest =>
              obtain ⟨g14, rfl, rfl, hg14, hbx, x0, x1⟩ := hcut
              have hst2 := hst.below hbx
              have hsz2 := hst2.size
              have hwx := hbx.size
              have c3' : wc.cell? ⟨b, off + u * 4 + 3, none⟩ = some (.string nmu) := (hbx.cell (p := ⟨b, off + u * 4 + 3, none⟩) hbw).trans c3
              obtain ⟨z0, hz0⟩ : ∃ z, wc.cell? ⟨wa.heap.size + 1 + 1, u * 4, none⟩ = some z := ⟨_, hst2.ss.cell (i := u * 4) (by omega)⟩
              obtain ⟨z1, hz1⟩ : ∃ z, wc.cell? ⟨wa.heap.size + 1 + 1, u * 4 + 1, none⟩ = some z := ⟨_, hst2.ss.cell (i := u * 4 + 1) (by omega)⟩
              obtain ⟨z2, hz2⟩ : ∃ z, wc.cell? ⟨wa.heap.size + 1 + 1, u * 4 + 2, none⟩ = some z := ⟨_, hst2.ss.cell (i := u * 4 + 2) (by omega)⟩
              obtain ⟨z3, hz3⟩ : ∃ z, wc.cell? ⟨wa.heap.size + 1 + 1, u * 4 + 3, none⟩ = some z := ⟨_, hst2.ss.cell (i := u * 4 + 3) (by omega)⟩
              have fz0 := hst2.ss.frozen (u * 4)
              have fz1 := hst2.ss.frozen (u * 4 + 1)
              have fz2 := hst2.ss.frozen (u * 4 + 2)
              have fz3 := hst2.ss.frozen (u * 4 + 3)
              have hg14' : g14 ≠ wa.heap.size + 1 + 1 := by have := hst.size; omega
              have hgl : g14 < wc.heap.size := World.block_lt_of_cell? wc ⟨g14, 0, none⟩ x0
              have hbne : b ≠ wa.heap.size + 1 + 1 := by omega
              have HS2 : Hid (∀ w', Kept (wa.heap.size + 1 + 1) wc w' → Kept (wa.heap.size + 1 + 1) wc w' ∧ w'.cell? ⟨b, off + u * 4 + 3, none⟩ = some (.string nmu) ∧ w'.cell? ⟨g14, 0, none⟩ = some (.int .i64 x.1) ∧ w'.cell? ⟨g14, 1, none⟩ = some (.int .i64 (x.2 : Int))) :=
                fun w' h => ⟨h, (World.cell?_of_block (w := wc) (a := ⟨b, off + u * 4 + 3, none⟩) (h.block b (by omega) hbne)).trans c3', (World.cell?_of_block (w := wc) (a := ⟨g14, 0, none⟩) (h.block g14 hgl hg14')).trans x0, (World.cell?_of_block (w := wc) (a := ⟨g14, 1, none⟩) (h.block g14 hgl hg14')).trans x1⟩
              go_upto_region 22 with fail
              go_cut [13] from 90 to 102 (fun v13 wx => v13 = .int .i64 (ix : Int) ∧ St w wx w.heap.size wa.heap.size n len2 D E (partRow w.heap.size len2 SN I X (u + 1)) ∧ wx.cell? ⟨g14, 0, none⟩ = some (.int .i64 x.1) ∧ wx.cell? ⟨g14, 1, none⟩ = some (.int .i64 (x.2 : Int)))
              case first =>
                go_region_held3 (fun w' => Kept (wa.heap.size + 1 + 1) wc w' ∧ w'.cell? ⟨b, off + u * 4 + 3, none⟩ = some (.string nmu) ∧ w'.cell? ⟨g14, 0, none⟩ = some (.int .i64 x.1) ∧ w'.cell? ⟨g14, 1, none⟩ = some (.int .i64 (x.2 : Int)))
                  ((first
                    | (refine HS2.out _ ?_; exact (Kept.refl _ _).drew)
                    | (refine HS2.out _ ?_; repeat (first | exact Kept.refl _ _ | apply Kept.drew | apply Kept.setCell))))
                  (fail)
                all_goals
                  go_wp2_with fail
                  go_meet
                  case rel =>
                    refine ⟨rfl, (HS1.out wc hst2).drew, ?_⟩
                    exact (HS2.out _ (by repeat (first | exact Kept.refl _ _ | apply Kept.drew | apply Kept.setCell))).2.2
              case rest =>
                obtain ⟨rfl, hst3, y0, y1⟩ := hcut
                clear hz0 hz1 hz2 hz3 fz0 fz1 fz2 fz3 c3' hbx x0 x1 hst2 hsz2 hwx hgl c0 c1 c2 c3 hst
                obtain ⟨wd, rfl⟩ : ∃ wd : World, wd = wc := ⟨_, rfl⟩
                have Htt : Hid (ff = true → ¬ allFit D I X len2) := hff.out.2
                cases ff with
                | true =>
                  have Htu : Hid (¬ allFit D I X len2) := Htt.out (by trivial)
                  go_wp2_with fail
                  go_roundg (len2 - (u + 1))
                  case measure => omega
                  case rel => exact ⟨u + 1, true, E, by omega, rfl, rfl, by go_num, hst3, fun h => (by cases h), fun _ => Htu.out⟩
                | false =>
                  have hogl := hst3.og.lt
                  have hgl : g14 < wd.heap.size := World.block_lt_of_cell? wd ⟨g14, 0, none⟩ y0
                  obtain ⟨o0, o1, _, _⟩ := dec_cells hst3.og hIn
                  have hpw := hpow.below hst3.bel hpow.1
                  have hw0 := hpow.1
                  have hwd := hst3.bel.size
                  have HP : Hid (∀ w', Below wd.heap.size wd w' → Pows w') := fun w' h => hpw.below h hpw.1
                  have HG : Hid (∀ w', Below wd.heap.size wd w' → w'.cell? ⟨0, 0, none⟩ = some (.iface 74 (.pointer (some a0)))) := fun w' h => by
                    rw [h.cell (p := ⟨0, 0, none⟩) (by show 0 < wd.heap.size; omega), hst3.bel.cell (p := ⟨0, 0, none⟩) (by show 0 < w.heap.size; omega)]; exact hg
                  have HS3 : Hid (∀ w', Below wd.heap.size wd w' → Below wd.heap.size wd w' ∧ w'.cell? ⟨wa.heap.size, ix * 2, none⟩ = some (.int .i64 (D ix).1) ∧ w'.cell? ⟨wa.heap.size, ix * 2 + 1, none⟩ = some (.int .i64 ((D ix).2 : Int)) ∧ w'.cell? ⟨g14, 0, none⟩ = some (.int .i64 x.1) ∧ w'.cell? ⟨g14, 1, none⟩ = some (.int .i64 (x.2 : Int))) :=
                    fun w' h => ⟨h, (h.cell (p := ⟨wa.heap.size, ix * 2, none⟩) hogl).trans o0, (h.cell (p := ⟨wa.heap.size, ix * 2 + 1, none⟩) hogl).trans o1, (h.cell (p := ⟨g14, 0, none⟩) hgl).trans y0, (h.cell (p := ⟨g14, 1, none⟩) hgl).trans y1⟩
                  cases hsum : sumOf (D ix) x with
                  | none =>
                    have Hsum : Hid (sumOf (D ix) x = none) := hsum
                    have Hnf : Hid (¬ allFit D I X len2) := Hnone.out hsum
                    clear hsum
                    go_upto_region 24 with fail
                    go_cut [15, 16] from 105 to 113 (fun v15 v16 wx => v16 = .iface 74 (.pointer (some a0)) ∧ Below wd.heap.size wd wx)
                    case first =>
                      go_region_held3 (fun w' => Below wd.heap.size wd w' ∧ w'.cell? ⟨wa.heap.size, ix * 2, none⟩ = some (.int .i64 (D ix).1) ∧ w'.cell? ⟨wa.heap.size, ix * 2 + 1, none⟩ = some (.int .i64 ((D ix).2 : Int)) ∧ w'.cell? ⟨g14, 0, none⟩ = some (.int .i64 x.1) ∧ w'.cell? ⟨g14, 1, none⟩ = some (.int .i64 (x.2 : Int)))
                        ((first
                          | (refine HS3.out _ ?_; exact (Below.refl _ _).drew)
                          | (refine HS3.out _ ?_; exact hb3W)
                          | (refine HS3.out _ ?_; exact hb3W.alloc hb3W.size _)
                          | (refine HS3.out _ ?_; exact (Below.refl _ _).drew.alloc (Nat.le_refl _) _)
                          | (refine HS3.out _ ?_; exact (hb3W.setCell (Nat.le_refl _) _).setCell (Nat.le_refl _) _)))
                        ((go_at_call 5; refine (add_none (D ix) x 74 a0 _ hdg hxg ?_ ?_ Hsum.out).mono ?_; exact HP.out _ (And.left (by assumption)); exact HG.out _ (And.left (by assumption)); rintro e w3 ⟨rfl, hb3⟩; obtain ⟨hc3, hf3⟩ := bcell hb3; have hb3W : Below wd.heap.size wd w3 := Below.trans (And.left (by assumption)) (Below.mono hb3 (Below.size (And.left (by assumption))))))
                      all_goals
                        go_wp2_with fail
                        go_meet
                        case rel =>
                          first
                            | exact ⟨rfl, (hb3W.setCell (Nat.le_refl _) _).setCell (Nat.le_refl _) _⟩
                            | exact ⟨rfl, hb3W.alloc hb3W.size _⟩
                    case rest =>
                      obtain ⟨rfl, hbx⟩ := hcut
                      have hst4 := hst3.below hbx
                      go_wp2_with fail
                      go_roundg (len2 - (u + 1))
                      case measure => omega
                      case rel => exact ⟨u + 1, true, E, by omega, rfl, rfl, by go_num, hst4, fun h => (by cases h), fun _ => Hnf.out⟩
                  | some r =>
                    have Hsum : Hid (sumOf (D ix) x = some r) := hsum
                    have Hfit : Hid (allFit D I X (u + 1) ∧ updD E ix r = finD D I X (u + 1)) := Hsome.out r hsum rfl
                    clear hsum
                    go_upto_region 24 with fail
                    go_cut [15, 16] from 105 to 113 (fun v15 v16 wx => ∃ g15 : Nat, v15 = .pointer (some ⟨g15, 0, none⟩) ∧ v16 = .nilIface ∧ Below wd.heap.size wd wx ∧ wx.cell? ⟨g15, 0, none⟩ = some (.int .i64 r.1) ∧ wx.cell? ⟨g15, 1, none⟩ = some (.int .i64 (r.2 : Int)))
                    case first =>
                      go_region_held3 (fun w' => Below wd.heap.size wd w' ∧ w'.cell? ⟨wa.heap.size, ix * 2, none⟩ = some (.int .i64 (D ix).1) ∧ w'.cell? ⟨wa.heap.size, ix * 2 + 1, none⟩ = some (.int .i64 ((D ix).2 : Int)) ∧ w'.cell? ⟨g14, 0, none⟩ = some (.int .i64 x.1) ∧ w'.cell? ⟨g14, 1, none⟩ = some (.int .i64 (x.2 : Int)))
                        ((first
                          | (refine HS3.out _ ?_; exact (Below.refl _ _).drew)
                          | (refine HS3.out _ ?_; exact hb3W)
                          | (refine HS3.out _ ?_; exact hb3W.alloc hb3W.size _)
                          | (refine HS3.out _ ?_; exact (Below.refl _ _).drew.alloc (Nat.le_refl _) _)
                          | (refine HS3.out _ ?_; exact (hb3W.setCell (Nat.le_refl _) _).setCell (Nat.le_refl _) _)))
                        ((go_at_call 5; refine (add_some (D ix) x r _ hdg hxg ?_ Hsum.out).mono ?_; exact HP.out _ (And.left (by assumption)); rintro e w3 ⟨rfl, hb3⟩; obtain ⟨hc3, hf3⟩ := bcell hb3; have hb3W : Below wd.heap.size wd w3 := Below.trans (And.left (by assumption)) (Below.mono hb3 (Below.size (And.left (by assumption))))))
                      all_goals
                        go_wp2_with fail
                        go_meet
                        case rel =>
                          first
                            | exact ⟨_, rfl, rfl, (hb3W.setCell (Nat.le_refl _) _).setCell (Nat.le_refl _) _, by go_simp, by go_simp⟩
                            | exact ⟨_, rfl, rfl, hb3W.alloc hb3W.size _, by go_simp, by go_simp⟩
                    case rest =>
                      obtain ⟨g15, rfl, rfl, hbx, r0, r1⟩ := hcut
                      have hst4 := hst3.below hbx
                      obtain ⟨e0, e1, f0, f1⟩ := dec_cells hst4.ex hIn
                      go_wp2_with fail
                      go_roundg (len2 - (u + 1))
                      case measure => omega
                      case rel =>
                        refine ⟨u + 1, false, updD E ix r, by omega, rfl, rfl, by go_num, ?_, fun _ => Hfit.out, fun h => (by cases h)⟩
                        exact hst4.setE (Nat.le_refl _) hbo ix r
          · obtain rfl : u = len2 := by omega
            obtain ⟨wb, rfl⟩ : ∃ wb : World, wb = wr := ⟨_, rfl⟩
            have hIn : ∀ i, i < u → I i < n := fun i hi => by
              rw [show I i = (SS i).toNat % n from congrFun HI.out i]; exact Nat.mod_lt _ (by omega)
            have hXg : ∀ i, i < u → Good (X i) := fun i hi => by
              rw [show X i = mkD (SC i) (SP i) from congrFun HX.out i]; exact mkD_good _ _
            have hss : wb.rowIs (wa.heap.size + 1 + 1) 35 (u * 4) (sumRow w.heap.size SN I X) := hst.ss.congr fun j hj => by unfold partRow; rw [if_pos hj]
            have hF2 : F.answers wb.tape := by rw [hst.bel.tape]; exact hF
            have hpw := hpow.below hst.bel hpow.1
            have hw0 := hpow.1
            have hg2 : wb.cell? ⟨0, 0, none⟩ = some (.iface 74 (.pointer (some a0))) := by rw [hst.bel.cell (p := ⟨0, 0, none⟩) (by show 0 < w.heap.size; omega)]; exact hg
            have hs2 : wb.cell? a0 = some (.string s0) := by rw [hst.bel.cell (World.block_lt_of_cell? w a0 hs)]; exact hs
            have HIX : Hid ((∀ i, i < u → I i < n) ∧ ∀ i, i < u → Good (X i)) := ⟨hIn, hXg⟩
            clear hIn hXg
            go_wp2_with fail
            refine (sums_any F (wa.heap.size + 1 + 1) w.heap.size u n SN I X D a0 s0 wb hF2 hl2 HIX.out.1 HIX.out.2 (fun i _ => hgood i) hpw hg2 hs2 (by omega) hss hst.sl).mono ?_
            rintro e w5 ⟨hk5, hcase⟩
            have hbel5 : Below w.heap.size w w5 := hst.bel.trans (hk5.below (Nat.le_refl _) hst.bel.size)
            have hog5 := hk5.row hst.og (by omega)
            have hex5 := hk5.row hst.ex (by omega)
            have hg5 : w5.cell? ⟨0, 0, none⟩ = some (.iface 74 (.pointer (some a0))) := by rw [hbel5.cell (p := ⟨0, 0, none⟩) (by show 0 < w.heap.size; omega)]; exact hg
            cases ff with
            | true =>
              have hnf := hff.out.2 (by trivial)
              rcases hcase with ⟨hall, _, _⟩ | ⟨_, hrow5, pb, rfl, hpb⟩
              · exact absurd hall hnf
              · clear hnf hff
                go_wp2_with (first | (go_at_call 7; refine (is_wrap_same pb a0 _ hpb).mono ?_; rintro e w6 ⟨rfl, hw6⟩; subst hw6) | (go_at_call 8; refine (same_any w.heap.size wa.heap.size n D D _ hn2 hrow5 hog5 (fun _ _ => rfl)).mono ?_; rintro e w7 ⟨rfl, hb7⟩))
                go_ret
                exact ⟨rfl, hbel5.trans (hb7.mono hbel5.size)⟩
            | false =>
              obtain ⟨hall, hE⟩ := hff.out.1 (by trivial)
              subst hE
              rcases hcase with ⟨_, rfl, hrow5⟩ | ⟨hnf, _, _⟩
              · clear hall hff
                go_wp2_with (go_at_call 8; refine (same_any w.heap.size (wa.heap.size + 1) n _ _ _ hn2 hrow5 hex5 (fun _ _ => rfl)).mono ?_; rintro e w7 ⟨rfl, hb7⟩)
                go_ret
                exact ⟨rfl, hbel5.trans (hb7.mono hbel5.size)⟩
              · exact absurd hall hnf
end Go.Proofs.YbulkbdoqFmt
