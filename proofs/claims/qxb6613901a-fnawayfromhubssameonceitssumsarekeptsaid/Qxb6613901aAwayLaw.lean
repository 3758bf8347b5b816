import Derived.Test.Qxb6613901aAwayTop
namespace Go.Proofs.Qxb6613901a
open Go Go.RowKit

theorem total_big (ds : List Int) (h : Degs ds) (h0 : 0 < ds.length) : ∃ q, Fl.V (Fl.sw (wts ds) ds.length) = 9007199254740992 * q := by
  refine Fl.V_dvd _ ?_
  obtain ⟨h1, h2⟩ := degs_get h h0
  obtain ⟨-, -, f3, -⟩ := wt_ok _ h1 h2
  have e1 := Fl.w_le (wts ds) 0
  rw [wts_get ds 0 h0] at e1
  exact Nat.le_trans (Fl.pow_mono (show 200 ≤ 1010 by decide)) (Nat.le_trans f3 (Nat.le_trans e1 (Fl.sw_mono (wts ds) (show 0 + 1 ≤ ds.length by omega))))

theorem drawn_any (a b : Int) : ∃ c u, Drawn a b c u := by
  obtain ⟨c, u, h1, h2, h3⟩ := f64_any a b
  exact ⟨c, u, h1, h2, h3⟩

set_option maxRecDepth 100000 in
set_option maxHeartbeats 3200000 in
theorem away_main (s1 s2 t1 t2 : Int) (v : Value) (ds : List Int) (w : World) (hv : IntsAt w v ds) (hm : ds.length ≤ maxLen) (hwf : ∀ d ∈ ds, d < 9223372036854775808) :
    Calls Try.prog 8 #[v, .int .u64 s1, .int .u64 s2, .int .u64 t1, .int .u64 t2] w fun e w' => e = .returned (.bool true) ∧ Below w.heap.size w w' := by
  have hv' := hv
  obtain ⟨ao, cap, rfl, hcap, f⟩ := hv'
  have HB := hide (bytes28 ao ds.length cap s1 s2 t1 t2 w hm)
  unfold maxLen at hm
  by_cases g0 : ds.length ≤ 1048576
  · rw [decide_eq_true g0] at HB
    by_cases g1 : 131072 < ds.length
    · go_enter Try.func8, Try.ntmps8
      go_wp2_with (go_at_call 28; refine (HB.out).mono ?_; rintro e w' ⟨rfl, hw⟩; obtain rfl := hw.symm)
      go_ret
      exact ⟨rfl, Below.refl _ _⟩
    have d1 : decide (131072 < (ds.length : Int)) = false := decide_eq_false (by omega)
    by_cases g2 : ds.length = 0
    · have d2 : ((ds.length : Int) == 0) = true := by simp [g2]
      clear g2
      go_enter Try.func8, Try.ntmps8
      go_wp2_with (go_at_call 28; refine (HB.out).mono ?_; rintro e w' ⟨rfl, hw⟩; obtain rfl := hw.symm)
      go_ret
      exact ⟨rfl, Below.refl _ _⟩
    have d2 : ((ds.length : Int) == 0) = false := by rw [beq_eq_false_iff_ne]; omega
    have h0 : 0 < ds.length := by omega
    obtain ⟨b, off, rfl, hcell⟩ := f h0
    have HC := hide hcell
    have HV := hide hv
    have HW := hide hwf
    clear f hcell hv hwf g2
    go_enter Try.func8, Try.ntmps8
    go_wp2_with (go_at_call 28; refine (HB.out).mono ?_; rintro e w' ⟨rfl, hw⟩; obtain rfl := hw.symm)
    go_loop [11] (fun iv => ∃ m : Nat, m ≤ ds.length ∧ iv = .int .i64 m ∧ Hid (∀ k, k < m → 1 ≤ ds.getD k 0)) (fun iv => ds.length - (intOf iv).toNat)
    case atStart => exact ⟨0, Nat.zero_le _, rfl, fun k hk => absurd hk (by omega)⟩
    case round =>
      obtain ⟨m, hm', rfl, HM⟩ := hrel
      by_cases hlt : m < ds.length
      · have c0 := HC.out m hlt
        have m0 : (0 : Int) ≤ (m : Int) := by omega
        have m1 : (m : Int) < (ds.length : Int) := by omega
        obtain ⟨d, hd⟩ : ∃ d, ds.getD m 0 = d := ⟨_, rfl⟩
        rw [hd] at c0
        have HDD := hide hd
        clear hd
        by_cases hd1 : d < 1
        · go_wp2_with fail
          go_ret
          exact ⟨rfl, Below.refl _ _⟩
        · have dd : decide (d < 1) = false := decide_eq_false hd1
          go_wp2_with fail
          go_round
          case rel =>
            refine ⟨m + 1, by omega, by go_num, fun k hk => ?_⟩
            by_cases e : k = m
            · subst e; rw [HDD.out]; omega
            · exact HM.out k (by omega)
          case measure => simp [intOf]; omega
      · obtain rfl : m = ds.length := by omega
        have dm : decide ((ds.length : Int) < (ds.length : Int)) = false := by simp
        have HD : Hid (Degs ds) := by
          intro d hd
          obtain ⟨k, hk, rfl⟩ := List.getElem_of_mem hd
          have := HM.out k hk
          simp only [List.getD_eq_getElem?_getD, List.getElem?_eq_getElem hk, Option.getD_some] at this
          exact ⟨this, HW.out _ hd⟩
        have hn : ds.length ≤ 131072 := by omega
        obtain ⟨q, hq⟩ := total_big ds HD.out h0
        obtain ⟨ct, ut, hdt⟩ := drawn_any t1 t2
        obtain ⟨cs, us, hds⟩ := drawn_any s1 s2
        obtain ⟨X, hX⟩ : ∃ X, X = Fl.R (cs * q) := ⟨_, rfl⟩
        have HQ := hide (And.intro hq (And.intro hdt (And.intro hds hX)))
        clear hq hdt hds hX HM HC HB
        go_wp2_with fail
        refine (clone_any _ ds w HV.out hn h0).mono ?_
        rintro e wA ⟨rfl, hA1, hA2, hA3⟩
        have HA := hide (And.intro hA1 hA3)
        clear hA1 hA3
        go_wp2_with fail
        refine (newHolder_any _ _ _ wA).mono ?_
        rintro e wB ⟨rfl, hB1, hB2, hB3⟩
        have HBB := hide (And.intro hB1 hB3)
        clear hB1 hB3
        go_wp2_with fail
        refine (newRand_any t1 t2 wB).mono ?_
        rintro e wC ⟨R, rfl, ⟨P, p1, p2, p3, p4, p5, p6, p7⟩, hC3⟩
        have H1 : HoldAt wC wA.heap.size (.slice (some ⟨w.heap.size, 0, none⟩) ds.length ds.length) (.slice none 0 0) := (hC3.block _ hB2).trans HBB.out.1
        have H2 : IntsAt wC (.slice (some ⟨w.heap.size, 0, none⟩) ds.length ds.length) ds := (HA.out.1.below HBB.out.2).below hC3
        have HF := hide (zzaway wA.heap.size R wC _ _ (away_fresh wA.heap.size w.heap.size R P t1 t2 ct ut HQ.out.2.1 ds wC H1 H2 p6 p7 (by omega) (by omega) (by omega) (by omega) HD.out hn h0 q _ HQ.out.1 rfl))
        go_wp2_with fail
        refine (HF.out).mono ?_
        rintro e wD ⟨rfl, iv, hD1, hD2, -, hD4, hD5⟩
        obtain ⟨g, icap, rfl⟩ : ∃ g cap, iv = .slice (some ⟨g, 0, none⟩) ds.length cap := by
          obtain ⟨-, ⟨-, hz⟩ | ⟨g, cap, cur, e, -⟩⟩ := hD2
          · omega
          · exact ⟨g, cap, e⟩
        have gl := owns_lt hD2 (k := g) rfl
        have bwC : Below w.heap.size w wC := HA.out.2.trans ((HBB.out.2.mono (Nat.le_of_lt hA2)).trans (hC3.mono (by omega)))
        have bwD : Below w.heap.size w wD := bwC.trans (hD5.below w.heap.size bwC.size (fun k hk => ⟨⟨by have := bwC.size; omega, by omega⟩, by omega⟩))
        have iD : IntsAt wD (.slice (some ⟨w.heap.size, 0, none⟩) ds.length ds.length) ds := by
          refine ⟨_, _, rfl, Nat.le_refl _, fun _ => ⟨w.heap.size, 0, rfl, fun k hk => ?_⟩⟩
          obtain ⟨_, _, e, -, ff⟩ := H2
          obtain ⟨b', o', e2, hcc⟩ := ff h0
          simp only [Value.slice.injEq] at e
          rw [← e.1] at e2
          simp only [Option.some.injEq, Addr.mk.injEq, and_true] at e2
          obtain ⟨rfl, rfl⟩ := e2
          exact hD5.cell (a := ⟨w.heap.size, 0 + k, none⟩) ⟨⟨World.block_lt_of_cell? wC _ (hcc k hk), by dsimp only; omega⟩, by dsimp only; omega⟩ (hcc k hk)
        have HD3 := hide (And.intro bwD (And.intro iD (And.intro hD1 hD2)))
        have sD := bwD.size
        have sH : wA.heap.size < wD.heap.size := blk_lt hD1
        clear HF H1 H2 bwC bwD iD hD1 hD2 hD4 hD5 p6 p7 p1 p2 p3 p4 p5 hC3
        go_wp2_with fail
        refine (newRand_any s1 s2 wD).mono ?_
        rintro e wE ⟨R2, rfl, ⟨P2, p1, p2, p3, p4, p5, p6, p7⟩, hE⟩
        have HK := hide (zzaway wA.heap.size R2 wE _ _ (away_kept wA.heap.size w.heap.size R2 P2 g icap s1 s2 cs us HQ.out.2.2.1 ds wE ((hE.block _ sH).trans HD3.out.2.2.1) (owns_keeps HD3.out.2.2.2 (Keeps.of_below hE) (fun k hk => by cases hk; exact gl)) (HD3.out.2.1.below hE) p6 p7 (by omega) (by omega) (by omega) HD.out hn h0 q X HQ.out.1 HQ.out.2.2.2))
        have bwE := HD3.out.1.trans (hE.mono sD)
        go_wp2_with fail
        refine (HK.out).mono ?_
        rintro e wF ⟨rfl, hF⟩
        have bwF : Below w.heap.size w wF := bwE.trans (hF.below w.heap.size bwE.size (fun k hk => by omega))
        have sF := bwF.size
        have HF := hide bwF
        clear HK hF bwE bwF p1 p2 p3 p4 p5 p6 p7 hE HD3 HA HBB
        go_wp2_with fail
        refine (clone_any _ ds wF (HV.out.below HF.out) hn h0).mono ?_
        rintro e wG ⟨rfl, hG1, hG2, hG3⟩
        have HG := hide (And.intro hG1 hG3)
        clear hG1 hG3
        go_wp2_with fail
        refine (newHolder_any _ _ _ wG).mono ?_
        rintro e wH ⟨rfl, hH1, hH2, hH3⟩
        have HH := hide (And.intro hH1 hH3)
        clear hH1 hH3
        go_wp2_with fail
        refine (newRand_any s1 s2 wH).mono ?_
        rintro e wI ⟨R3, rfl, ⟨P3, p1, p2, p3, p4, p5, p6, p7⟩, hI⟩
        have H1 : HoldAt wI wG.heap.size (.slice (some ⟨wF.heap.size, 0, none⟩) ds.length ds.length) (.slice none 0 0) := (hI.block _ hH2).trans HH.out.1
        have H2 : IntsAt wI (.slice (some ⟨wF.heap.size, 0, none⟩) ds.length ds.length) ds := (HG.out.1.below HH.out.2).below hI
        have HJ := hide (zzaway wG.heap.size R3 wI _ _ (away_fresh wG.heap.size wF.heap.size R3 P3 s1 s2 cs us HQ.out.2.2.1 ds wI H1 H2 p6 p7 (by omega) (by omega) (by omega) (by omega) HD.out hn h0 q X HQ.out.1 HQ.out.2.2.2))
        go_wp2_with fail
        refine (HJ.out).mono ?_
        rintro e wJ ⟨rfl, iv3, -, -, -, -, hJ⟩
        have bwI : Below w.heap.size w wI := HF.out.trans ((HG.out.2.mono sF).trans ((HH.out.2.mono (by omega)).trans (hI.mono (by omega))))
        have bwJ : Below w.heap.size w wJ := bwI.trans (hJ.below w.heap.size bwI.size (fun k hk => ⟨⟨by have := bwI.size; omega, by omega⟩, by omega⟩))
        have sJ := bwJ.size
        have HBJ := hide bwJ
        clear HJ H1 H2 bwI bwJ hJ hI p1 p2 p3 p4 p5 p6 p7 HG HH
        go_wp2_with fail
        refine (newRand_any s1 s2 wJ).mono ?_
        rintro e wK ⟨R4, rfl, ⟨P4, p1, p2, p3, p4, p5, p6, p7⟩, hK⟩
        have bwK : Below w.heap.size w wK := HBJ.out.trans (hK.mono sJ)
        have H33 := hide (HQ.out.2.2.1.2.2 wK R4 P4 (blk_cell p6 0) p7)
        have HBK := hide bwK
        clear bwK hK p6 p7
        go_wp2_with fail
        refine (H33.out).mono ?_
        rintro e wL ⟨rfl, hL⟩
        have bwL : Below w.heap.size w wL := HBK.out.trans (hL.below w.heap.size HBK.out.size (fun k hk => by omega))
        have HBL := hide bwL
        obtain ⟨x1, x2, x3⟩ := mulT_run cs us _ q HQ.out.2.2.1.1 HQ.out.2.2.1.2.1 (sw_fin ds HD.out ds.length hn) HQ.out.1 (sum_small ds HD.out ds.length hn)
        rw [← HQ.out.2.2.2] at x1 x2 x3
        have HX := hide (And.intro x2 (Nat.le_trans x3 (by rw [← HQ.out.1]; exact sum_small ds HD.out ds.length hn)))
        clear bwL hL H33 x2 x3
        go_wp2_with fail
        refine (total_any _ ds wL (HV.out.below HBL.out) HD.out hn).mono ?_
        rintro e wM ⟨rfl, hwM⟩
        obtain rfl := hwM.symm
        go_wp2_with fail
        refine (zzpick_any _ ds X wL (HV.out.below HBL.out) HD.out hn h0 HX.out.1 HX.out.2).mono ?_
        rintro e wN ⟨rfl, hwN⟩
        obtain rfl := hwN.symm
        go_wp2_with fail
        go_ret
        exact ⟨rfl, HBL.out⟩
  · rw [decide_eq_false g0] at HB
    go_enter Try.func8, Try.ntmps8
    go_wp2_with (go_at_call 28; refine (HB.out).mono ?_; rintro e w' ⟨rfl, hw⟩; obtain rfl := hw.symm)
    go_ret
    exact ⟨rfl, Below.refl _ _⟩

end Go.Proofs.Qxb6613901a
