/-
  missing.
-/
import Derived.Test.YbulkbdpeMissing
namespace Go.Proofs.Ybulkbdpe
open Go.RowKit
set_option linter.unusedVariables false

theorem bcell {W w1 : World} (hb : Below W.heap.size W w1) : (∀ b o, b < W.heap.size → w1.cell? ⟨b, o, none⟩ = W.cell? ⟨b, o, none⟩) ∧ (∀ b o, b < W.heap.size → w1.frozen? ⟨b, o, none⟩ = W.frozen? ⟨b, o, none⟩) :=
  ⟨fun b o h => hb.cell (p := ⟨b, o, none⟩) h, fun b o h => hb.frozen (p := ⟨b, o, none⟩) h⟩

/-- Three cells of one block, stored. -/
theorem put3 {w wc : World} {A : Nat} {u0 u1 u2 : Value} (v0 v1 v2 : Value) (hb : Below w.heap.size w wc) (hA : w.heap.size ≤ A) (c0 : wc.cell? ⟨A, 0, none⟩ = some u0) (c1 : wc.cell? ⟨A, 1, none⟩ = some u1) (c2 : wc.cell? ⟨A, 2, none⟩ = some u2) :
    Below w.heap.size w (((wc.setCell ⟨A, 0, none⟩ v0).setCell ⟨A, 1, none⟩ v1).setCell ⟨A, 2, none⟩ v2) ∧ (((wc.setCell ⟨A, 0, none⟩ v0).setCell ⟨A, 1, none⟩ v1).setCell ⟨A, 2, none⟩ v2).cell? ⟨A, 0, none⟩ = some v0 ∧
      (((wc.setCell ⟨A, 0, none⟩ v0).setCell ⟨A, 1, none⟩ v1).setCell ⟨A, 2, none⟩ v2).cell? ⟨A, 1, none⟩ = some v1 ∧ (((wc.setCell ⟨A, 0, none⟩ v0).setCell ⟨A, 1, none⟩ v1).setCell ⟨A, 2, none⟩ v2).cell? ⟨A, 2, none⟩ = some v2 := by
  have n01 : (⟨A, 1, none⟩ : Addr) ≠ ⟨A, 0, none⟩ := by simp
  have n02 : (⟨A, 2, none⟩ : Addr) ≠ ⟨A, 0, none⟩ := by simp
  have n12 : (⟨A, 2, none⟩ : Addr) ≠ ⟨A, 1, none⟩ := by simp
  refine ⟨((hb.setCell hA _).setCell hA _).setCell hA _, ?_, ?_, ?_⟩
  · rw [World.cell?_setCell_other _ _ _ _ n02, World.cell?_setCell_other _ _ _ _ n01]
    exact World.cell?_setCell_same _ _ _ c0
  · rw [World.cell?_setCell_other _ _ _ _ n12]
    exact World.cell?_setCell_same _ _ _ (by rw [World.cell?_setCell_other _ _ _ _ n01.symm]; exact c1)
  · exact World.cell?_setCell_same _ _ _ (by rw [World.cell?_setCell_other _ _ _ _ n12.symm, World.cell?_setCell_other _ _ _ _ n02.symm]; exact c2)

theorem gap {V : Nat → Nat} {n : Nat} (h : ∀ s t, s < t → t < n → V s < V t) (s : Nat) : ∀ d, s + d < n → V s + d ≤ V (s + d)
  | 0, _ => Nat.le_refl _
  | d + 1, hd => by
    have h1 := gap h s d (by omega)
    have h2 := h (s + d) (s + (d + 1)) (by omega) hd
    omega

theorem told_of {V : Nat → Nat} {o m n T fr f i j : Nat} (hm : ∀ s t, s < t → t < n → V s < V t) (ho : o + m = n) (hf : max fr T = f) (hij : i + j ≤ m) (h1 : ∀ t, t < i → V (o + t) < f + 1) (h2 : ∀ t, i ≤ t → t < m → f + 1 ≤ V (o + t))
    (h3 : ∀ k, k < j → V (o + (i + k)) ≤ f + 1 + k) (h4 : i + j < m → f + 1 + j < V (o + (i + j))) : Told V o n T fr (f + 1 + j) (o + (i + j)) := by
  refine ⟨by omega, fun x hx1 hx2 => ?_, by omega, by omega, fun t ht1 ht2 => ?_, fun h => h4 (by omega)⟩
  · obtain ⟨k, rfl⟩ : ∃ k, x = f + 1 + k := ⟨x - (f + 1), by omega⟩
    refine ⟨o + (i + k), by omega, ?_⟩
    have a1 := h3 k (by omega)
    have a2 := h2 i (Nat.le_refl _) (by omega)
    have a3 := gap hm (o + i) k (by omega)
    rw [show o + i + k = o + (i + k) by omega] at a3
    omega
  · obtain ⟨s, rfl⟩ : ∃ s, t = o + s := ⟨t - o, by omega⟩
    by_cases hs : s < i
    · have := h1 s hs
      omega
    · obtain ⟨k, rfl⟩ : ∃ k, s = i + k := ⟨s - i, by omega⟩
      have := h3 k (by omega)
      omega

set_option maxHeartbeats 400000 in
theorem missing (ad : Addr) (vb b o m c n T fr hi : Nat) (V : Nat → Nat) (w : World) (h0 : w.cell? ⟨vb, 0, none⟩ = some (.int .u64 T)) (h1 : w.cell? ⟨vb, 1, none⟩ = some (.slice (some ad) m c)) (had : 0 < m → ad = ⟨b, o * 4, none⟩)
    (hm : m ≤ 1024) (ho : o + m = n) (hr : Rw w b V n) (hmono : ∀ s t, s < t → t < n → V s < V t) (hT : T ≤ 4294967295) (hfr : fr ≤ 4294967295) (hto : hi ≤ 4294967295) :
    Calls Yba.prog 6 #[.pointer (some ⟨vb, 0, none⟩), .int .u64 fr, .int .u64 hi] w fun e w' => ∃ first J, Told V o n T fr first J ∧ e = .returned (.tuple #[.bool (decide (first < hi)), tm (if first < hi ∧ J < n then J + 1 else 0)]) ∧ Below w.heap.size w w' := by
  have HR : Hid (Rw w b V n) := hr
  have HM : Hid (∀ s t, s < t → t < n → V s < V t) := hmono
  have HA : Hid (0 < m → ad = ⟨b, o * 4, none⟩) := had
  have hvb : vb < w.heap.size := World.block_lt_of_cell? _ _ h0
  generalize hf : max fr T = f
  have hf1 : f ≤ 4294967295 := by omega
  have HF : Hid (max fr T = f) := hf
  clear hf hr hmono had
  go_enter Yba.func6, Yba.ntmps6
  go_wp2_with fail
  obtain ⟨hM, hfz⟩ := Mis.start w vb fr
  generalize ((w.alloc (.cells #[.pointer (some ⟨vb, 0, none⟩)] 25)).alloc (.cells #[.int .u64 fr] 27)).alloc (.cells #[.int .u64 0, .int .i64 0, .pointer none] 30) = W at *
  have g0 := (hM.1.cell (p := ⟨vb, 0, none⟩) hvb).trans h0
  have MH : Hid (Mis w W w.heap.size vb fr) := hM
  have g3 := hM.2.2.2.1
  have g4 := hM.2.2.2.2.1
  clear hM
  go_cut [] from 12 to 17 (fun wx => Mis w wx w.heap.size vb f)
  case first =>
    have e : (if fr < T then (T : Int) else (fr : Int)) = (f : Int) := by rw [← HF.out]; split <;> omega
    go_region
    go_wp2_with fail
    go_meet
    case rel => exact (MH.out.put f).below (Below.refl _ _).drew
  case rest =>
    have HC : Hid (Mis w wc w.heap.size vb f) := hcut
    have r3 := hcut.2.2.2.1
    have r4 := hcut.2.2.2.2.1
    have r1 := (hcut.1.cell (p := ⟨vb, 1, none⟩) hvb).trans h1
    have rs := hcut.2.2.1
    have rl := hcut.1.size
    have HS : Hid (∀ w', Below wc.heap.size wc w' → Below wc.heap.size wc w' ∧ w'.cell? ⟨w.heap.size, 0, none⟩ = some (.pointer (some ⟨vb, 0, none⟩)) ∧ w'.cell? ⟨vb, 1, none⟩ = some (.slice (some ad) m c) ∧ w'.cell? ⟨w.heap.size + 1, 0, none⟩ = some (.int .u64 f)) := by
      intro w' h
      exact ⟨h, (h.cell (p := ⟨w.heap.size, 0, none⟩) (by show w.heap.size < _; omega)).trans r3, (h.cell (p := ⟨vb, 1, none⟩) (by show vb < _; omega)).trans r1, (h.cell (p := ⟨w.heap.size + 1, 0, none⟩) (by show w.heap.size + 1 < _; omega)).trans r4⟩
    have HB : Hid (∀ w', Below wc.heap.size wc w' → Calls Yba.prog 11 #[.slice (some ad) m c, .int .u64 ((f : Int) + 1), .func (.func 12) #[] #[]] w' fun e w3 => ∃ (i : Nat) (g : Bool), e = .returned (.tuple #[.int .i64 i, .bool g]) ∧ i ≤ m ∧ Hid ((∀ t, t < i → V (o + t) < f + 1) ∧ (∀ t, i ≤ t → t < m → f + 1 ≤ V (o + t))) ∧ Below w'.heap.size w' w3) := by
      intro w' h
      by_cases hm0 : m = 0
      · subst hm0
        refine (bsearch0 ad c (f + 1) w').mono ?_
        rintro e w3 ⟨rfl, rfl⟩
        exact ⟨0, false, rfl, Nat.le_refl _, (⟨fun t ht => absurd ht (Nat.not_lt_zero _), fun t _ ht => absurd ht (Nat.not_lt_zero _)⟩ : (∀ t, t < 0 → V (o + t) < f + 1) ∧ (∀ t, 0 ≤ t → t < 0 → f + 1 ≤ V (o + t))), Below.refl _ _⟩
      · obtain rfl := HA.out (by omega)
        have hR : Rw w' b V n := (HR.out.below HC.out.1 HR.out.1).below h (Nat.lt_of_lt_of_le HR.out.1 rl)
        refine (bsearch b o m c n (f + 1) V w' (by omega) hm ho hR HM.out).mono ?_
        rintro e w3 ⟨i, g, rfl, h1, h2, h3, h4⟩
        exact ⟨i, g, rfl, h1, (⟨h2, h3⟩ : (∀ t, t < i → V (o + t) < f + 1) ∧ (∀ t, i ≤ t → t < m → f + 1 ≤ V (o + t))), h4⟩
    clear hcut r1 r3 r4 g0 g3 g4 hfz h0 h1
    have ew : IntKind.u64.wrap ((f : Int) + 1) = (f : Int) + 1 := by rw [IntKind.wrap_u64]; omega
    go_upto_region 2 with fail
    go_cut [8, 9] from 18 to 27 (fun u8 u9 wx => ∃ i a8 : Nat, u8 = .pointer (some ⟨a8, 0, none⟩) ∧ wc.heap.size ≤ a8 ∧ a8 < wx.heap.size ∧ i ≤ m ∧ Hid ((∀ t, t < i → V (o + t) < f + 1) ∧ (∀ t, i ≤ t → t < m → f + 1 ≤ V (o + t))) ∧ Below wc.heap.size wc wx ∧ wx.cell? ⟨a8, 0, none⟩ = some (.int .i64 i))
    case first =>
      go_region_held3 (fun w' => Below wc.heap.size wc w' ∧ w'.cell? ⟨w.heap.size, 0, none⟩ = some (.pointer (some ⟨vb, 0, none⟩)) ∧ w'.cell? ⟨vb, 1, none⟩ = some (.slice (some ad) m c) ∧ w'.cell? ⟨w.heap.size + 1, 0, none⟩ = some (.int .u64 f))
        ((first
          | (refine HS.out _ ?_; with_reducible exact (Below.refl _ _).drew)
          | (refine HS.out _ ?_; with_reducible exact hb3W)
          | (refine HS.out _ ?_; exact hb3W.alloc hb3W.size _)
          | (refine HS.out _ ?_; exact (Below.refl _ _).drew.alloc (Nat.le_refl _) _)
          | (refine HS.out _ ?_; exact hb3W.setCell (Nat.le_refl _) _)
          | (refine HS.out _ ?_; exact (hb3W.alloc hb3W.size _).setCell hb3W.size _)
          | (trace_state; fail)))
        ((go_at_call 11; refine (HB.out _ (And.left (by assumption))).mono ?_; rintro e w3 ⟨i, g, rfl, hi, HI, hb3⟩; obtain ⟨hc3, hf3⟩ := bcell hb3; have hb3W : Below wc.heap.size wc w3 := Below.trans (And.left (by assumption)) (Below.mono hb3 (Below.size (And.left (by assumption))))))
      all_goals
        go_wp2_with fail
        go_meet
        case rel =>
          first
            | exact ⟨i, w3.heap.size, rfl, hb3W.size, by simp, hi, HI, hb3W.alloc hb3W.size _, by rw [World.cell?_alloc_at _ _ _ _ rfl]; rfl⟩
            | exact ⟨i, wc.heap.size, rfl, Nat.le_refl _, by have := hb3.size; simp at this ⊢; omega, hi, HI, hb3W.setCell (Nat.le_refl _) _, World.cell?_setCell_same _ _ _ (u := .int .i64 0) (by rw [hc3 _ _ (by simp)]; simp)⟩
    case rest =>
      obtain ⟨i, a8, rfl, ha8, ha8', him, HI, hb, hcell⟩ := hcut
      have hM2 := HC.out.below hb
      have HC2 : Hid (Mis w wc w.heap.size vb f) := hM2
      have hvc : w.heap.size ≤ wc.heap.size := hM2.1.size
      have s3 := hM2.2.2.2.1
      have s4 := hM2.2.2.2.2.1
      have s1 : wc.cell? ⟨vb, 1, none⟩ = some (.slice (some ad) m c) := (HS.out _ hb).2.2.1
      have sA := hM2.2.2.1
      have HS2 : Hid (∀ w', Below wc.heap.size wc w' → Below wc.heap.size wc w' ∧ w'.cell? ⟨a8, 0, none⟩ = some (.int .i64 i) ∧ w'.cell? ⟨w.heap.size, 0, none⟩ = some (.pointer (some ⟨vb, 0, none⟩)) ∧ w'.cell? ⟨vb, 1, none⟩ = some (.slice (some ad) m c) ∧ w'.cell? ⟨w.heap.size + 1, 0, none⟩ = some (.int .u64 f)) := by
        intro w' h
        exact ⟨h, (h.cell (p := ⟨a8, 0, none⟩) ha8').trans hcell, (h.cell (p := ⟨w.heap.size, 0, none⟩) (by show w.heap.size < _; omega)).trans s3, (h.cell (p := ⟨vb, 1, none⟩) (by show vb < _; omega)).trans s1, (h.cell (p := ⟨w.heap.size + 1, 0, none⟩) (by show w.heap.size + 1 < _; omega)).trans s4⟩
      have HR2 : Hid (∀ w', Below wc.heap.size wc w' → Rw w' b V n) := fun w' h => (HR.out.below hM2.1 HR.out.1).below h (Nat.lt_of_lt_of_le HR.out.1 hvc)
      have HB2 : Hid (∀ w', Below wc.heap.size wc w' → Calls Yba.prog 13 #[.int .i64 ((m : Int) - (i : Int)), .func (.func 14) #[] #[.pointer (some ⟨w.heap.size, 0, none⟩), .pointer (some ⟨a8, 0, none⟩), .pointer (some ⟨w.heap.size + 1, 0, none⟩)]] w' fun e w3 => ∃ j : Nat, e = .returned (.int .i64 j) ∧ i + j ≤ m ∧ Hid ((∀ k, k < j → V (o + (i + k)) ≤ f + 1 + k) ∧ (i + j < m → f + 1 + j < V (o + (i + j)))) ∧ Below w'.heap.size w' w3) := by
        intro w' h
        have := search (m - i) (fun k => decide (f + 1 + k < V (o + (i + k)))) (.pointer (some ⟨w.heap.size, 0, none⟩)) (.pointer (some ⟨a8, 0, none⟩)) (.pointer (some ⟨w.heap.size + 1, 0, none⟩)) w' (by omega) (fun wr k hwr hk => ?_) (fun x y hxy hy hx => ?_)
        · rw [show ((m - i : Nat) : Int) = (m : Int) - (i : Int) by omega] at this
          refine this.mono ?_
          rintro e w3 ⟨j, rfl, hj, k1, k2, hb4⟩
          exact ⟨j, rfl, by omega, (⟨fun k hk => by have := of_decide_eq_false (k1 k hk); omega, fun hlt => of_decide_eq_true (k2 (by omega))⟩ : (∀ k, k < j → V (o + (i + k)) ≤ f + 1 + k) ∧ (i + j < m → f + 1 + j < V (o + (i + j)))), hb4⟩
        · obtain rfl := HA.out (by omega)
          have hw2 : Below wc.heap.size wc wr := h.trans (hwr.mono h.size)
          obtain ⟨_, t8, t3, t1, t4⟩ := HS2.out wr hw2
          have hy := ((HR2.out wr hw2).at o (i + k) (by omega)).1
          exact clos w.heap.size (w.heap.size + 1) a8 vb b o i m c k f _ wr t3 t8 t4 t1 hy hm (by omega) (by omega)
        · have e1 := of_decide_eq_true hx
          have e2 := gap HM.out (o + (i + x)) (y - x) (by omega)
          rw [show o + (i + x) + (y - x) = o + (i + y) by omega] at e2
          exact decide_eq_true (by omega)
      have ew2 : IntKind.i64.wrap ((m : Int) - (i : Int)) = (m : Int) - (i : Int) := wrap_small _ (by omega) (by omega)
      clear s1 s3 s4 hcell hM2 HS HB
      go_upto_region 3 with fail
      go_cut [10] from 28 to 38 (fun u10 wx => ∃ j : Nat, u10 = .int .i64 ((i : Int) + (j : Int)) ∧ i + j ≤ m ∧ Hid ((∀ k, k < j → V (o + (i + k)) ≤ f + 1 + k) ∧ (i + j < m → f + 1 + j < V (o + (i + j)))) ∧ Below wc.heap.size wc wx)
      case first =>
        go_region_held3 (fun w' => Below wc.heap.size wc w' ∧ w'.cell? ⟨a8, 0, none⟩ = some (.int .i64 i) ∧ w'.cell? ⟨w.heap.size, 0, none⟩ = some (.pointer (some ⟨vb, 0, none⟩)) ∧ w'.cell? ⟨vb, 1, none⟩ = some (.slice (some ad) m c) ∧ w'.cell? ⟨w.heap.size + 1, 0, none⟩ = some (.int .u64 f))
          ((first
            | (refine HS2.out _ ?_; exact (Below.refl _ _).drew)
            | (refine HS2.out _ ?_; exact hb3W)
            | (trace_state; fail)))
          ((go_at_call 13; refine (HB2.out _ (And.left (by assumption))).mono ?_; rintro e w3 ⟨j, rfl, hj, HJ, hb3⟩; have hb3W : Below wc.heap.size wc w3 := Below.trans (And.left (by assumption)) (Below.mono hb3 (Below.size (And.left (by assumption))))))
        go_wp2_with fail
        go_meet
        case rel => exact ⟨j, by first | rfl | rw [wrap_small _ (by omega) (by omega)], hj, HJ, hb3W⟩
      case rest =>
        obtain ⟨j, rfl, hj, HJ, hbx⟩ := hcut
        have hM3 := HC2.out.below hbx
        obtain ⟨_, t8, t3, t1, t4⟩ := HS2.out wc hbx
        have c0 := hM3.2.2.2.2.2.1
        have c1 := hM3.2.2.2.2.2.2.1
        have c2 := hM3.2.2.2.2.2.2.2.1
        have f0 := hM3.2.2.2.2.2.2.2.2 0
        have f1 := hM3.2.2.2.2.2.2.2.2 1
        have f2 := hM3.2.2.2.2.2.2.2.2 2
        have sz := hM3.2.2.1
        have HBel : Hid (Below w.heap.size w wc) := hM3.1
        have HT : Hid (Told V o n T fr (f + 1 + j) (o + (i + j))) := told_of HM.out ho HF.out hj HI.out.1 HI.out.2 HJ.out.1 HJ.out.2
        have HRx : Hid (Rw wc b V n) := HR2.out wc hbx
        clear hM3 hbx hb HC HC2 HS2 HB2 MH
        by_cases hfi : f + 1 + j < hi
        · by_cases hlt : i + j < m
          · obtain rfl := HA.out (by omega)
            obtain ⟨q0, q1, q2, q3⟩ := HRx.out.at o (i + j) (by omega)
            clear q0
            have k1 : (0 : Int) ≤ (i : Int) + (j : Int) := by omega
            have k2 : (i : Int) + (j : Int) < (m : Int) := by omega
            go_wp2_with fail
            go_region
            go_wp2
            obtain ⟨pb, p0, p1, p2⟩ := put3 (.int .u64 ((o : Int) + ((i : Int) + (j : Int)) + 1)) (.int .i64 0) (.pointer none) HBel.out (by omega) c0 c1 c2
            generalize ((wc.setCell ⟨w.heap.size + 1 + 1, 0, none⟩ (.int .u64 ((o : Int) + ((i : Int) + (j : Int)) + 1))).setCell ⟨w.heap.size + 1 + 1, 1, none⟩ (.int .i64 0)).setCell ⟨w.heap.size + 1 + 1, 2, none⟩ (.pointer none) = X at *
            (try simp only [Exit.inBlock, Exit.then])
            refine bodyPost_ret (by simp [results, Yba.results6, go_sem, p0, p1, p2]; try rfl) rfl ?_
            refine ⟨f + 1 + j, o + (i + j), HT.out, ?_, ?_⟩
            · rw [decide_eq_true hfi, if_pos ⟨hfi, by omega⟩]; rfl
            · exact pb.drew
          · go_wp2
            obtain ⟨pb, p0, p1, p2⟩ := put3 (.int .u64 0) (.int .i64 0) (.pointer none) HBel.out (by omega) c0 c1 c2
            generalize ((wc.setCell ⟨w.heap.size + 1 + 1, 0, none⟩ (.int .u64 0)).setCell ⟨w.heap.size + 1 + 1, 1, none⟩ (.int .i64 0)).setCell ⟨w.heap.size + 1 + 1, 2, none⟩ (.pointer none) = X at *
            (try simp only [Exit.inBlock, Exit.then])
            refine bodyPost_ret (by simp [results, Yba.results6, go_sem, p0, p1, p2]; try rfl) rfl ?_
            refine ⟨f + 1 + j, o + (i + j), HT.out, ?_, ?_⟩
            · rw [decide_eq_true hfi, if_neg (by omega)]; rfl
            · exact pb
        · go_wp2
          obtain ⟨pb, p0, p1, p2⟩ := put3 (.int .u64 0) (.int .i64 0) (.pointer none) HBel.out (by omega) c0 c1 c2
          generalize ((wc.setCell ⟨w.heap.size + 1 + 1, 0, none⟩ (.int .u64 0)).setCell ⟨w.heap.size + 1 + 1, 1, none⟩ (.int .i64 0)).setCell ⟨w.heap.size + 1 + 1, 2, none⟩ (.pointer none) = X at *
          (try simp only [Exit.inBlock, Exit.then])
          refine bodyPost_ret (by simp [results, Yba.results6, go_sem, p0, p1, p2]; try rfl) rfl ?_
          refine ⟨f + 1 + j, o + (i + j), HT.out, ?_, ?_⟩
          · rw [decide_eq_false hfi, if_neg (by omega)]; rfl
          · exact pb
end Go.Proofs.Ybulkbdpe
