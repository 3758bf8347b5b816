import Derived.Test.Qxb6613901aLeads2
namespace Go.Proofs.Qxb6613901a
open Go Go.RowKit

theorem leads_append (ids : List Int) (self : Int) (a b : List Int) : leads ids self (a ++ b) = (leads ids self a || leads ids self b) := by simp [leads]

theorem IntsAt.take {w : World} {ao : Option Addr} {n c : Nat} {zs : List Int} (h : IntsAt w (.slice ao n c) zs) (k : Nat) (hk : k ≤ n) : IntsAt w (.slice ao k c) (zs.take k) := by
  obtain ⟨ao', c', e, hc, f⟩ := h
  simp only [Value.slice.injEq] at e
  obtain ⟨rfl, rfl, rfl⟩ := e
  have hl : (zs.take k).length = k := by simp; omega
  refine ⟨ao, c, by rw [hl], by omega, fun h0 => ?_⟩
  obtain ⟨b, off, rfl, g⟩ := f (by omega)
  refine ⟨b, off, rfl, fun i hi => ?_⟩
  rw [hl] at hi
  rw [g i (by omega)]
  simp [hi]

theorem IntsAt.drop {w : World} {ao : Option Addr} {n c : Nat} {zs : List Int} (h : IntsAt w (.slice ao n c) zs) (k : Nat) (hk : k ≤ n) : IntsAt w (.slice (Option.map (fun x => x.add k) ao) (n - k) (c - k)) (zs.drop k) := by
  obtain ⟨ao', c', e, hc, f⟩ := h
  simp only [Value.slice.injEq] at e
  obtain ⟨rfl, rfl, rfl⟩ := e
  have hl : (zs.drop k).length = zs.length - k := by simp
  refine ⟨_, _, by rw [hl], by omega, fun h0 => ?_⟩
  obtain ⟨b, off, rfl, g⟩ := f (by omega)
  have ha : (⟨b, off, none⟩ : Addr).add k = ⟨b, off + k, none⟩ := Go.WideShapes.add_plain b off k
  refine ⟨b, off + k, by simp [ha], fun i hi => ?_⟩
  rw [hl] at hi
  rw [Nat.add_assoc, g (k + i) (by omega)]
  simp

theorem IntsAt.none (w : World) (ao : Option Addr) (n : Nat) (hn : n = 0) (zs : List Int) (hz : zs = []) : IntsAt w (.slice ao n 0) zs := by
  subst hn hz
  exact ⟨ao, 0, rfl, Nat.le_refl _, fun h => absurd h (by simp)⟩

theorem zzleads_b (self : Int) (x0 x2 lv v : Value) (ls ids : List Int) (w : World) (hlv : IntsAt w lv ls) (hv : AnsAt w v ids) (hl : ids.length ≤ 1000000) (hs : ascB ids = true) (hll : ls.length ≤ 1000000) (b : Bool) (hb : Hid (leads ids self ls = b)) :
    Calls Try.prog 25 #[v, .int .i64 self, .agg #[x0, lv, x2]] w fun e w' => e = .returned (.bool b) ∧ Below w.heap.size w w' := hb.out ▸ zzleads_any self x0 x2 lv v ls ids w hlv hv hl hs hll

theorem model_b (lv iv : Value) (self : Int) (ls ids : List Int) (w : World) (hlv : IntsAt w lv ls) (hiv : IntsAt w iv ids) (hll : ls.length ≤ 1000000) (hil : ids.length ≤ 1000000) (b : Bool) (hb : Hid (leads ids self ls = b)) :
    Calls Try.prog 26 #[iv, .int .i64 self, lv] w fun e w' => e = .returned (.bool b) ∧ w' = w := hb.out ▸ model_any lv iv self ls ids w hlv hiv hll hil

set_option maxRecDepth 100000 in
set_option maxHeartbeats 1600000 in
theorem cut_early (self k : Int) (iv lv : Value) (ids ls : List Int) (w : World) (hi : IntsAt w iv ids) (hl : IntsAt w lv ls) (h1 : ids.length ≤ maxLen) (h2 : ls.length ≤ maxLen)
    (h : ¬ (ids.length + ls.length ≤ 1048576 ∧ ids.length ≤ 4096 ∧ ls.length ≤ 4096 ∧ ascB ids = true ∧ 0 ≤ k ∧ k ≤ ls.length)) :
    Calls Try.prog 6 #[iv, .int .i64 self, lv, .int .i64 k] w fun e w' => e = .returned (.bool true) ∧ Below w.heap.size w w' := by
  have hi' := hi
  have hl' := hl
  obtain ⟨ia, ic, rfl, hic, -⟩ := hi'
  obtain ⟨la, lc, rfl, hlc, -⟩ := hl'
  have hB := bytes22 self k ia la ids.length ls.length ic lc w h1 h2
  unfold maxLen at h1 h2
  by_cases g0 : ids.length + ls.length ≤ 1048576
  · rw [decide_eq_true g0] at hB
    have HB := hide hB
    clear hB
    by_cases g1 : 4096 < ids.length
    · go_enter Try.func6, Try.ntmps6
      go_wp2_with (go_at_call 22; refine (HB.out).mono ?_; rintro e w' ⟨rfl, rfl⟩)
      go_ret
      exact ⟨rfl, Below.refl _ _⟩
    have d1 : decide (4096 < (ids.length : Int)) = false := by simp; omega
    by_cases g2 : 4096 < ls.length
    · go_enter Try.func6, Try.ntmps6
      go_wp2_with (go_at_call 22; refine (HB.out).mono ?_; rintro e w' ⟨rfl, rfl⟩)
      go_ret
      exact ⟨rfl, Below.refl _ _⟩
    have d2 : decide (4096 < (ls.length : Int)) = false := by simp; omega
    have d3 : decide (1048576 < 8 * (ids.length : Int) + 8 * (ls.length : Int)) = false := by simp; omega
    have hA := asc_any _ ids w hi (by omega)
    obtain ⟨ba, hba⟩ : ∃ b, ascB ids = b := ⟨_, rfl⟩
    rw [hba] at hA h
    have HA := hide hA
    clear hA hba
    cases ba with
    | false =>
      clear h
      go_enter Try.func6, Try.ntmps6
      go_wp2_with (first | (go_at_call 22; refine (HB.out).mono ?_; rintro e w' ⟨rfl, hw⟩; obtain rfl := hw.symm) | (go_at_call 23; refine (HA.out).mono ?_; rintro e w' ⟨rfl, nq, rfl⟩))
      go_ret
      exact ⟨rfl, ⟨rfl, rfl, rfl, Nat.le_refl _, fun _ _ => rfl⟩⟩
    | true =>
      by_cases g3 : k < 0
      · clear h
        go_enter Try.func6, Try.ntmps6
        go_wp2_with (first | (go_at_call 22; refine (HB.out).mono ?_; rintro e w' ⟨rfl, hw⟩; obtain rfl := hw.symm) | (go_at_call 23; refine (HA.out).mono ?_; rintro e w' ⟨rfl, nq, rfl⟩))
        go_ret
        exact ⟨rfl, ⟨rfl, rfl, rfl, Nat.le_refl _, fun _ _ => rfl⟩⟩
      · have d4 : decide (k < 0) = false := by simpa using g3
        have g4 : (ls.length : Int) < k := by
          by_cases h5 : k ≤ ls.length
          · exact absurd ⟨g0, by omega, by omega, rfl, by omega, h5⟩ h
          · omega
        clear h
        go_enter Try.func6, Try.ntmps6
        go_wp2_with (first | (go_at_call 22; refine (HB.out).mono ?_; rintro e w' ⟨rfl, hw⟩; obtain rfl := hw.symm) | (go_at_call 23; refine (HA.out).mono ?_; rintro e w' ⟨rfl, nq, rfl⟩))
        go_ret
        exact ⟨rfl, ⟨rfl, rfl, rfl, Nat.le_refl _, fun _ _ => rfl⟩⟩
  · rw [decide_eq_false g0] at hB
    have HB := hide hB
    clear hB h
    go_enter Try.func6, Try.ntmps6
    go_wp2_with (go_at_call 22; refine (HB.out).mono ?_; rintro e w' ⟨rfl, rfl⟩)
    go_ret
    exact ⟨rfl, Below.refl _ _⟩

set_option maxRecDepth 100000 in
set_option maxHeartbeats 1600000 in
theorem cut_main (self : Int) (k : Nat) (iv lv : Value) (ids ls : List Int) (w : World) (hi : IntsAt w iv ids) (hl : IntsAt w lv ls)
    (g0 : ids.length + ls.length ≤ 1048576) (g1 : ids.length ≤ 4096) (g2 : ls.length ≤ 4096) (hs : ascB ids = true) (hk : k ≤ ls.length) :
    Calls Try.prog 6 #[iv, .int .i64 self, lv, .int .i64 k] w fun e w' => e = .returned (.bool true) ∧ Below w.heap.size w w' := by
  have hi' := hi
  have hl' := hl
  obtain ⟨ia, ic, rfl, hic, -⟩ := hi'
  obtain ⟨la, lc, rfl, hlc, -⟩ := hl'
  have hB := bytes22 self k ia la ids.length ls.length ic lc w (by unfold maxLen; omega) (by unfold maxLen; omega)
  rw [decide_eq_true g0] at hB
  have HB := hide hB
  have hA := asc_any _ ids w hi (by omega)
  rw [hs] at hA
  have HA := hide hA
  have HS := hide hs
  clear hB hA hs
  have d1 : decide (4096 < (ids.length : Int)) = false := by simp; omega
  have d2 : decide (4096 < (ls.length : Int)) = false := by simp; omega
  have d3 : decide (1048576 < 8 * (ids.length : Int) + 8 * (ls.length : Int)) = false := by simp; omega
  have d4 : decide ((k : Int) < 0) = false := by simp
  have d5 : decide ((ls.length : Int) < (k : Int)) = false := by simp; omega
  go_enter Try.func6, Try.ntmps6
  go_wp2_with (first | (go_at_call 22; refine (HB.out).mono ?_; rintro e w' ⟨rfl, hw⟩; obtain rfl := hw.symm) | (go_at_call 23; refine (HA.out).mono ?_; rintro e w' ⟨rfl, nq, rfl⟩))
  have hi0 : IntsAt (w.drewN nq) (.slice ia ids.length ic) ids := hi
  have hl0 : IntsAt (w.drewN nq) (.slice la ls.length lc) ls := hl
  refine (answers_any _ ids _ hi0 (by omega)).mono ?_
  rintro e w1 ⟨v, rfl, hv, hb1⟩
  have hl1 := hl0.below hb1
  have hi1 := hi0.below hb1
  have hvf : ∃ a n c, v = .slice a n c := by obtain ⟨a, c, rfl, _⟩ := hv; exact ⟨_, _, _, rfl⟩
  obtain ⟨va, vn, vc, rfl⟩ := hvf
  obtain ⟨bl, hbl⟩ : ∃ b, leads ids self (ls.take k) = b := ⟨_, rfl⟩
  obtain ⟨br, hbr⟩ : ∃ b, leads ids self (ls.drop k) = b := ⟨_, rfl⟩
  have hbw : leads ids self ls = (bl || br) := by rw [← hbl, ← hbr, ← leads_append, List.take_append_drop]
  have HBL := hide hbl
  have HBR := hide hbr
  have HBW := hide hbw
  clear hbl hbr hbw
  have hk' : (k : Int) ≤ (ls.length : Int) := by omega
  have hk0 : (0 : Int) ≤ (k : Int) := by omega
  have hlt : (ls.take k).length ≤ 1000000 := by simp; omega
  have hld : (ls.drop k).length ≤ 1000000 := by simp; omega
  go_wp2_with fail
  refine (zzleads_b self _ _ _ _ ls ids _ hl1 hv (by omega) HS.out (by omega) _ HBW).mono ?_
  rintro e w2 ⟨rfl, hb2⟩
  have hl2 := hl1.below hb2
  have hi2 := hi1.below hb2
  have hv2 := hv.below hb2
  go_wp2_with fail
  refine (zzleads_b self _ _ _ _ (ls.take k) ids _ (hl2.take k hk) hv2 (by omega) HS.out hlt _ HBL).mono ?_
  rintro e w3 ⟨rfl, hb3⟩
  have hl3 := hl2.below hb3
  have hi3 := hi2.below hb3
  have hv3 := hv2.below hb3
  have hb1' : Below w.heap.size w w1 := ⟨hb1.os, hb1.tape, hb1.output, hb1.size, hb1.block⟩
  have hfin3 : Below w.heap.size w w3 := hb1'.trans ((hb2.mono hb1'.size).trans (hb3.mono (Nat.le_trans hb1'.size hb2.size)))
  have hs3 := hfin3.size
  have HF3 := hide hfin3
  have HL3 := hide hl3
  have HI3 := hide hi3
  have HV3 := hide hv3
  clear hfin3 hb1' hb1 hb2 hb3 hl0 hi0 hl1 hi1 hl2 hi2 hv hv2 hl3 hi3 hv3 hi hl HB HA
  by_cases hck : lc = k
  · subst hck
    have HLD : Hid (IntsAt w3 (.slice la 0 0) (ls.drop lc)) := IntsAt.none _ _ _ rfl _ (List.drop_eq_nil_of_le (by omega))
    go_wp2_with fail
    refine (zzleads_b self _ _ _ _ (ls.drop lc) ids _ HLD.out HV3.out (by omega) HS.out hld _ HBR).mono ?_
    rintro e w4 ⟨rfl, hb4⟩
    have hl4 := HL3.out.below hb4
    have hi4 := HI3.out.below hb4
    have hld4 := HLD.out.below hb4
    have HF4 := hide (HF3.out.trans (hb4.mono hs3))
    have HX : Hid (IntsAt w4 (.slice la lc lc) (ls.take lc)) := hl4.take lc hk
    clear hb4 HF3 HL3 HI3 HV3 HLD
    cases bl <;> cases br
    all_goals
      go_wp2_with fail
      refine (model_b _ _ self (ls.take lc) ids _ HX.out hi4 hlt (by omega) _ HBL).mono ?_
      rintro e w5 ⟨rfl, hw5⟩
      obtain rfl := hw5.symm
      go_wp2_with fail
      refine (model_b _ _ self (ls.drop lc) ids _ hld4 hi4 hld (by omega) _ HBR).mono ?_
      rintro e w6 ⟨rfl, hw6⟩
      obtain rfl := hw6.symm
      go_wp2_with fail
      go_ret
      exact ⟨rfl, HF4.out⟩
  · have HLD : Hid (IntsAt w3 (.slice (Option.map (fun x => x.add k) la) (ls.length - k) (lc - k)) (ls.drop k)) := HL3.out.drop k hk
    go_wp2_with fail
    refine (zzleads_b self _ _ _ _ (ls.drop k) ids _ HLD.out HV3.out (by omega) HS.out hld _ HBR).mono ?_
    rintro e w4 ⟨rfl, hb4⟩
    have hl4 := HL3.out.below hb4
    have hi4 := HI3.out.below hb4
    have hld4 := HLD.out.below hb4
    have HF4 := hide (HF3.out.trans (hb4.mono hs3))
    have HX : Hid (IntsAt w4 (.slice la k lc) (ls.take k)) := hl4.take k hk
    clear hb4 HF3 HL3 HI3 HV3 HLD
    cases bl <;> cases br
    all_goals
      go_wp2_with fail
      refine (model_b _ _ self (ls.take k) ids _ HX.out hi4 hlt (by omega) _ HBL).mono ?_
      rintro e w5 ⟨rfl, hw5⟩
      obtain rfl := hw5.symm
      go_wp2_with fail
      refine (model_b _ _ self (ls.drop k) ids _ hld4 hi4 hld (by omega) _ HBR).mono ?_
      rintro e w6 ⟨rfl, hw6⟩
      obtain rfl := hw6.symm
      go_wp2_with fail
      go_ret
      exact ⟨rfl, HF4.out⟩

end Go.Proofs.Qxb6613901a
