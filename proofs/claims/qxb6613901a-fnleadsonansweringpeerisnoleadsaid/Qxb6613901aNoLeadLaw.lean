import Derived.Test.Qxb6613901aNoLeadPlain
import Derived.Test.Qxb6613901aCutLaw
import Derived.Test.Qxb6613901aLink
import Derived.Deep.DeepCutAuto
namespace Go.Proofs.Qxb6613901a
open Go Go.RowKit

set_option maxRecDepth 100000 in
set_option maxHeartbeats 1600000 in
theorem nolead_early (self x : Int) (iv lv : Value) (ids ls : List Int) (w : World) (hi : IntsAt w iv ids) (hl : IntsAt w lv ls) (h1 : ids.length ≤ maxLen) (h2 : ls.length ≤ maxLen)
    (h : ¬ (ids.length + ls.length ≤ 1048576 ∧ ids.length ≤ 4096 ∧ ls.length ≤ 4096 ∧ ascB ids = true)) :
    Calls Try.prog 7 #[iv, .int .i64 self, lv, .int .i64 x] w fun e w' => e = .returned (.bool true) ∧ Below w.heap.size w w' := by
  have hi' := hi
  have hl' := hl
  obtain ⟨ia, ic, rfl, hic, -⟩ := hi'
  obtain ⟨la, lc, rfl, hlc, -⟩ := hl'
  have hB := bytes27 self x ia la ids.length ls.length ic lc w h1 h2
  unfold maxLen at h1 h2
  by_cases g0 : ids.length + ls.length ≤ 1048576
  · rw [decide_eq_true g0] at hB
    have HB := hide hB
    clear hB
    by_cases g1 : 4096 < ids.length
    · clear h
      go_enter Try.func7, Try.ntmps7
      go_wp2_with (go_at_call 27; refine (HB.out).mono ?_; rintro e w' ⟨rfl, rfl⟩)
      go_ret
      exact ⟨rfl, Below.refl _ _⟩
    have d1 : decide (4096 < (ids.length : Int)) = false := by simp; omega
    by_cases g2 : 4096 < ls.length
    · clear h
      go_enter Try.func7, Try.ntmps7
      go_wp2_with (go_at_call 27; refine (HB.out).mono ?_; rintro e w' ⟨rfl, rfl⟩)
      go_ret
      exact ⟨rfl, Below.refl _ _⟩
    have d2 : decide (4096 < (ls.length : Int)) = false := by simp; omega
    have d3 : decide (1048576 < 8 * (ids.length : Int) + 8 * (ls.length : Int)) = false := by simp; omega
    have hA := asc_any _ ids w hi (by omega)
    have hba : ascB ids = false := by
      cases hh : ascB ids with
      | false => rfl
      | true => exact absurd ⟨g0, by omega, by omega, hh⟩ h
    rw [hba] at hA
    have HA := hide hA
    clear hA hba h
    go_enter Try.func7, Try.ntmps7
    go_wp2_with (first | (go_at_call 27; refine (HB.out).mono ?_; rintro e w' ⟨rfl, hw⟩; obtain rfl := hw.symm) | (go_at_call 23; refine (HA.out).mono ?_; rintro e w' ⟨rfl, nq, rfl⟩))
    go_ret
    exact ⟨rfl, ⟨rfl, rfl, rfl, Nat.le_refl _, fun _ _ => rfl⟩⟩
  · rw [decide_eq_false g0] at hB
    have HB := hide hB
    clear hB h
    go_enter Try.func7, Try.ntmps7
    go_wp2_with (go_at_call 27; refine (HB.out).mono ?_; rintro e w' ⟨rfl, rfl⟩)
    go_ret
    exact ⟨rfl, Below.refl _ _⟩

set_option maxRecDepth 100000 in
set_option maxHeartbeats 4800000 in
theorem nolead_main (self x : Int) (iv lv : Value) (ids ls : List Int) (w : World) (hi : IntsAt w iv ids) (hl : IntsAt w lv ls)
    (g0 : ids.length + ls.length ≤ 1048576) (g1 : ids.length ≤ 4096) (g2 : ls.length ≤ 4096) (hs : ascB ids = true) :
    Calls Try.prog 7 #[iv, .int .i64 self, lv, .int .i64 x] w fun e w' => e = .returned (.bool true) ∧ Below w.heap.size w w' := by
  have hi' := hi
  have hl' := hl
  obtain ⟨ia, ic, rfl, hic, fi⟩ := hi'
  obtain ⟨la, lc, rfl, hlc, fl⟩ := hl'
  obtain ⟨i2, hi2, hz20, hz21, hz22⟩ := info_parts info2
  have hB := bytes27 self x ia la ids.length ls.length ic lc w (by unfold maxLen; omega) (by unfold maxLen; omega)
  rw [decide_eq_true g0] at hB
  have HB := hide hB
  have hA := asc_any _ ids w hi (by omega)
  rw [hs] at hA
  have HA := hide hA
  have HS := hide hs
  have HI := hide hi
  have HL := hide hl
  clear hB hA hs hi hl
  have d1 : decide (4096 < (ids.length : Int)) = false := by simp; omega
  have d2 : decide (4096 < (ls.length : Int)) = false := by simp; omega
  have d3 : decide (1048576 < 8 * (ids.length : Int) + 8 * (ls.length : Int)) = false := by simp; omega
  go_enter Try.func7, Try.ntmps7
  go_wp2_with (first | (go_at_call 27; refine (HB.out).mono ?_; rintro e w' ⟨rfl, hw⟩; obtain rfl := hw.symm) | (go_at_call 23; refine (HA.out).mono ?_; rintro e w' ⟨rfl, nq, rfl⟩))
  clear HB HA
  go_loop [9] (fun p => ∃ k : Nat, k ≤ ids.length ∧ p = .int .i64 k ∧ Hid (∀ i, i < k → ids.getD i 0 ≤ x)) (fun p => ids.length - (intOf p).toNat)
  case atStart => exact ⟨0, Nat.zero_le _, rfl, fun i h => absurd h (by omega)⟩
  case round =>
    obtain ⟨pos, hp, rfl, HP⟩ := hrel
    by_cases hgo : pos < ids.length ∧ ids.getD pos 0 ≤ x
    · obtain ⟨hlt, hle⟩ := hgo
      obtain ⟨b, off, rfl, hcell⟩ := fi (by omega)
      have c0 := hcell pos hlt
      generalize hy : ids.getD pos 0 = y at c0 hle
      have HY := hide hy
      have m0 : (0 : Int) ≤ (pos : Int) := by omega
      have m1 : (pos : Int) < (ids.length : Int) := by omega
      clear hcell fi fl hy
      go_wp2_with fail
      go_round
      case rel =>
        refine ⟨pos + 1, by omega, by go_num, fun i hi => ?_⟩
        by_cases hip : i = pos
        · rw [hip, HY.out]; exact hle
        · exact HP.out i (by omega)
      case measure => simp [intOf]; omega
    · have hN : ∀ y, ids[pos]? = some y → x ≤ y := by
        intro y hy
        have hlt := (List.getElem?_eq_some_iff.1 hy).1
        have : ¬ ids.getD pos 0 ≤ x := fun h => hgo ⟨hlt, h⟩
        simp [hy] at this
        omega
      have HAS := hide (asc_insert ids x pos HS.out hp HP.out hN)
      clear hN HP
      go_upto_region 10 with fail
      go_cut [53] (fun c wx => c = .bool false ∧ w.drewN nq = wx)
      case first =>
        by_cases hlt : pos < ids.length
        · obtain ⟨b, off, rfl, hcell⟩ := fi (by omega)
          have c0 := hcell pos hlt
          have hle : ¬ ids.getD pos 0 ≤ x := fun h => hgo ⟨hlt, h⟩
          generalize hy : ids.getD pos 0 = y at c0 hle
          have m0 : (0 : Int) ≤ (pos : Int) := by omega
          have m1 : (pos : Int) < (ids.length : Int) := by omega
          have dy : decide (y ≤ x) = false := by simpa using hle
          clear hcell fi fl hy hgo hle
          go_wp2_with fail
          go_meet
          case rel => exact ⟨rfl, rfl⟩
        · have dp : decide ((pos : Int) < (ids.length : Int)) = false := by simp; omega
          clear hgo
          go_wp2_with fail
          go_meet
          case rel => exact ⟨rfl, rfl⟩
      case rest =>
        obtain ⟨rfl, rfl⟩ := hcut
        clear hgo
        go_wp2_with (at_make; refine wpList_make_full _ rfl _ _ 24 rfl 0 2 i2 (.int .i64 0) 1 Try.underlying24 hi2 hz20 hz21 _ _ _ _ (ids.length + 1) rfl rfl (by omega) (by omega) (by rw [hz22]; omega) (by unfold maxLen; omega) (by omega) ?_)
        intro w1 own1 hgrow1
        have own2 : w1.ownsRow 0 2 1 (.slice (some ⟨w.heap.size, 0, none⟩) (ids.length + 1) (ids.length + 1)) (ids.length + 1) (ints (firstK (ids.take pos) 0 ++ List.replicate (ids.length + 1 - pos) 0)) := by
          have e : (madeCells #[Value.int .i64 0] (ids.length + 1)).toList = ints (firstK (ids.take pos) 0 ++ List.replicate (ids.length + 1 - pos) 0) := by
            rw [firstK_zero, List.length_take, Nat.min_eq_left hp, List.replicate_append_replicate, show pos + (ids.length + 1 - pos) = ids.length + 1 by omega, toList_madeCells_one]; simp [ints]
          rw [← e]; exact own1
        have bel1 : Below w.heap.size w w1 := ⟨hgrow1.os, hgrow1.tape, hgrow1.output, hgrow1.size, fun k hk => hgrow1.block k hk (by simp)⟩
        have HO := hide own2
        have HB1 := hide bel1
        clear own1 hgrow1 own2 bel1
        have hPl : (ids.take pos).length = pos := by simp; omega
        have HPL := hide hPl
        clear hPl
        go_wp2_with fail
        go_loopw [11] (fun i wr => ∃ k : Nat, k ≤ pos ∧ i = .int .i64 k ∧ wr.ownsRow 0 2 1 (.slice (some ⟨w.heap.size, 0, none⟩) (ids.length + 1) (ids.length + 1)) (ids.length + 1) (ints (firstK (ids.take pos) k ++ List.replicate (ids.length + 1 - pos) 0)) ∧ Below w.heap.size w wr) (fun i _ => pos - (intOf i).toNat)
        case atStart => exact ⟨0, Nat.zero_le _, rfl, HO.out, HB1.out⟩
        case round =>
          obtain ⟨k, hk, rfl, hrow, hbel⟩ := hrel
          by_cases hlt : k < pos
          · obtain ⟨_, _, e, -, f⟩ := HI.out.below hbel
            simp only [Value.slice.injEq, true_and] at e
            obtain ⟨rfl, rfl⟩ := e
            obtain ⟨b, off, rfl, hcell⟩ := f (by omega)
            obtain ⟨y, hy⟩ : ∃ y, ids[k]? = some y := ⟨_, List.getElem?_eq_getElem (by omega)⟩
            have c0 : wr.cell? ⟨b, off + k, none⟩ = some (.int .i64 y) := by rw [hcell k (by omega)]; simp [hy]
            have m0 : (0 : Int) ≤ (k : Int) := by omega
            have m1 : (k : Int) < (ids.length : Int) := by omega
            have m2 : (k : Int) < (ids.length : Int) + 1 := by omega
            have hfl : (firstK (ids.take pos) k).length = pos := by rw [firstK_length _ _ (by rw [HPL.out]; exact hk), HPL.out]
            have ca := row_has hrow (k := k) (by omega)
            obtain ⟨z, ca⟩ := ca
            have fa : wr.frozen? ⟨w.heap.size, k, none⟩ = false := hrow.frozenAt k
            have HR : Hid ((wr.setCell ⟨w.heap.size, k, none⟩ (.int .i64 y)).ownsRow 0 2 1 (.slice (some ⟨w.heap.size, 0, none⟩) (ids.length + 1) (ids.length + 1)) (ids.length + 1) (ints (firstK (ids.take pos) (k + 1) ++ List.replicate (ids.length + 1 - pos) 0))) := by
              have := (hrow.stored k (.int .i64 y)).1
              rw [ints_set, List.set_append_left _ _ (by omega)] at this
              rwa [firstK_succ (ids.take pos) k y (by simp [hlt, hy])]
            have HB := hide hbel
            clear hcell f hy hrow hbel hfl fi fl
            go_wp2_with fail
            go_roundw
            case rel => exact ⟨k + 1, by omega, by go_num, HR.out, HB.out.setCell (Nat.le_refl _) _⟩
            case measure => simp [intOf]; omega
          · have hkp : k = pos := by omega
            have dk : decide ((k : Int) < (pos : Int)) = false := by simp; omega
            have hrow2 : wr.ownsRow 0 2 1 (.slice (some ⟨w.heap.size, 0, none⟩) (ids.length + 1) (ids.length + 1)) (ids.length + 1) (ints (ids.take pos ++ List.replicate (ids.length + 1 - pos) 0)) := by
              rw [hkp] at hrow
              have e := firstK_end (ids.take pos)
              rw [HPL.out] at e
              rwa [e] at hrow
            have cp := row_has hrow2 (k := pos) (by omega)
            obtain ⟨z, cp⟩ := cp
            have fp : wr.frozen? ⟨w.heap.size, pos, none⟩ = false := hrow2.frozenAt pos
            have HR2 : Hid ((wr.setCell ⟨w.heap.size, pos, none⟩ (.int .i64 x)).ownsRow 0 2 1 (.slice (some ⟨w.heap.size, 0, none⟩) (ids.length + 1) (ids.length + 1)) (ids.length + 1) (ints ((ids.take pos ++ [x]) ++ firstK (ids.drop pos) 0))) := by
              have := (hrow2.stored pos (.int .i64 x)).1
              rw [ints_set, List.set_append_right _ _ (by rw [HPL.out]; omega), HPL.out, Nat.sub_self, show ids.length + 1 - pos = (ids.length - pos) + 1 by omega, List.replicate_succ, List.set_cons_zero] at this
              rw [firstK_zero, List.length_drop, List.append_assoc]
              exact this
            have HB2 : Hid (Below w.heap.size w (wr.setCell ⟨w.heap.size, pos, none⟩ (.int .i64 x))) := hbel.setCell (Nat.le_refl _) _
            have p0 : (0 : Int) ≤ (pos : Int) := by omega
            have p1 : (pos : Int) < (ids.length : Int) + 1 := by omega
            clear hrow hrow2 hbel hkp HO HB1
            obtain ⟨w2, hw2⟩ : ∃ w2 : World, w2 = wr := ⟨_, rfl⟩
            subst hw2
            go_wp2_with fail
            go_loopw [12] (fun i wr => ∃ j : Nat, pos ≤ j ∧ j ≤ ids.length ∧ i = .int .i64 j ∧ wr.ownsRow 0 2 1 (.slice (some ⟨w.heap.size, 0, none⟩) (ids.length + 1) (ids.length + 1)) (ids.length + 1) (ints ((ids.take pos ++ [x]) ++ firstK (ids.drop pos) (j - pos))) ∧ Below w.heap.size w wr) (fun i _ => ids.length - (intOf i).toNat)
            case atStart => exact ⟨pos, Nat.le_refl _, hp, rfl, by rw [Nat.sub_self]; exact HR2.out, HB2.out⟩
            case round =>
              obtain ⟨j, hj1, hj2, rfl, hrow, hbel⟩ := hrel
              by_cases hlt3 : j < ids.length
              · obtain ⟨_, _, e, -, f⟩ := HI.out.below hbel
                simp only [Value.slice.injEq, true_and] at e
                obtain ⟨rfl, rfl⟩ := e
                obtain ⟨b, off, rfl, hcell⟩ := f (by omega)
                obtain ⟨y, hy⟩ : ∃ y, ids[j]? = some y := ⟨_, List.getElem?_eq_getElem hlt3⟩
                have c0 : wr.cell? ⟨b, off + j, none⟩ = some (.int .i64 y) := by rw [hcell j (by omega)]; simp [hy]
                have m0 : (0 : Int) ≤ (j : Int) := by omega
                have m1 : (j : Int) < (ids.length : Int) := by omega
                have m2 : (j : Int) + 1 < (ids.length : Int) + 1 := by omega
                have m3 : (0 : Int) ≤ (j : Int) + 1 := by omega
                have hAl : (ids.take pos ++ [x]).length = pos + 1 := by rw [List.length_append, HPL.out]; rfl
                have hfl : (firstK (ids.drop pos) (j - pos)).length = ids.length - pos := by rw [firstK_length _ _ (by simp; omega), List.length_drop]
                have ca := row_has hrow (k := j + 1) (by omega)
                obtain ⟨z, ca⟩ := ca
                have fa : wr.frozen? ⟨w.heap.size, j + 1, none⟩ = false := hrow.frozenAt (j + 1)
                have HR : Hid ((wr.setCell ⟨w.heap.size, j + 1, none⟩ (.int .i64 y)).ownsRow 0 2 1 (.slice (some ⟨w.heap.size, 0, none⟩) (ids.length + 1) (ids.length + 1)) (ids.length + 1) (ints ((ids.take pos ++ [x]) ++ firstK (ids.drop pos) (j + 1 - pos)))) := by
                  have := (hrow.stored (j + 1) (.int .i64 y)).1
                  rw [ints_set, List.set_append_right _ _ (by rw [hAl]; omega), hAl, show j + 1 - (pos + 1) = j - pos by omega] at this
                  rw [show j + 1 - pos = (j - pos) + 1 by omega, firstK_succ (ids.drop pos) (j - pos) y (by simp [show pos + (j - pos) = j by omega, hy])]
                  exact this
                have HB := hide hbel
                clear hcell f hy hrow hbel hfl hAl fi fl
                go_wp2_with fail
                go_roundw
                case rel => exact ⟨j + 1, by omega, by omega, by go_num, HR.out, HB.out.setCell (Nat.le_refl _) _⟩
                case measure => simp [intOf]; omega
              · have hjn : j = ids.length := by omega
                have dj : decide ((j : Int) < (ids.length : Int)) = false := by simp; omega
                have HW3 : Hid (wr.ownsRow 0 2 1 (.slice (some ⟨w.heap.size, 0, none⟩) (ids.length + 1) (ids.length + 1)) (ids.take pos ++ [x] ++ ids.drop pos).length (ints (ids.take pos ++ [x] ++ ids.drop pos)) ∧ Below w.heap.size w wr) := by
                  refine ⟨?_, hbel⟩
                  rw [hjn] at hrow
                  have e := firstK_end (ids.drop pos)
                  rw [List.length_drop] at e
                  rw [e] at hrow
                  rw [show (ids.take pos ++ [x] ++ ids.drop pos).length = ids.length + 1 by simp; omega]
                  exact hrow
                clear hrow hbel hjn HR2 HB2 cp fp
                obtain ⟨w3, hw3⟩ : ∃ w3 : World, w3 = wr := ⟨_, rfl⟩
                subst hw3
                go_wp2_with (at_make; refine wpList_make_own _ rfl _ _ 24 rfl 0 2 i2 (.int .i64 0) 1 Try.underlying24 hi2 hz20 hz21 _ _ _ ls.length rfl rfl rfl (by rw [hz22]; omega) (by unfold maxLen; omega) (by omega) ?_)
                intro w4 own4 hgrow4
                have bel4 : Keeps (fun b => b < w3.heap.size) w3 w4 := ⟨hgrow4.os, hgrow4.tape, hgrow4.output, hgrow4.size, fun k _ hk => hgrow4.block k hk (by simp)⟩
                have HO4 := hide own4
                have HB4 := hide bel4
                clear own4 hgrow4 bel4
                go_wp2_with fail
                go_loopw [13, 14] (fun rv i wr => ∃ k : Nat, k ≤ ls.length ∧ i = .int .i64 k ∧ wr.ownsRow 0 2 1 rv (struck (ls.take k) x).length (ints (struck (ls.take k) x)) ∧ offX (fun b => b < w3.heap.size) rv ∧ Keeps (fun b => b < w3.heap.size) w3 wr) (fun _ i _ => ls.length - (intOf i).toNat)
                case atStart =>
                  refine ⟨0, Nat.zero_le _, rfl, by simpa [struck, ints] using HO4.out, ?_, HB4.out⟩
                  intro b hb hlt
                  simp [Value.ownBlock] at hb
                  omega
                case round =>
                  obtain ⟨k4, hk4, rfl, hrow, hoff, hkp⟩ := hrel
                  have hbw : Below w.heap.size w wr := HW3.out.2.trans (hkp.below _ HW3.out.2.size (fun _ h => Nat.lt_of_lt_of_le h HW3.out.2.size))
                  by_cases hlt4 : k4 < ls.length
                  · obtain ⟨_, _, e, -, f⟩ := HL.out.below hbw
                    simp only [Value.slice.injEq, true_and] at e
                    obtain ⟨rfl, rfl⟩ := e
                    obtain ⟨b, off, rfl, hcell⟩ := f (by omega)
                    obtain ⟨q, hq⟩ : ∃ q, ls[k4]? = some q := ⟨_, List.getElem?_eq_getElem hlt4⟩
                    have c0 : wr.cell? ⟨b, off + k4, none⟩ = some (.int .i64 q) := by rw [hcell k4 (by omega)]; simp [hq]
                    have m0 : (0 : Int) ≤ (k4 : Int) := by omega
                    have m1 : (k4 : Int) < (ls.length : Int) := by omega
                    have hsl := struck_len (ls.take k4) x
                    have htl : (ls.take k4).length ≤ k4 := List.length_take_le _ _
                    have hsz := hkp.size
                    have HST := hide (struck_take_succ ls x q k4 hq)
                    clear hcell f hq hbw fi fl
                    by_cases hqx : q = x
                    · have hb : (q != x) = false := by simp [hqx]
                      have HQX : Hid ((q == x) = true) := (by simp [hqx] : (q == x) = true)
                      have HR := hide hrow
                      have HK := hide hkp
                      clear hrow hkp hqx
                      go_wp2_with fail
                      go_roundw
                      case rel => exact ⟨k4 + 1, by omega, by go_num, by rw [HST.out, HQX.out]; simpa using HR.out, hoff, HK.out⟩
                      case measure => simp [intOf]; omega
                    · have hb : (q != x) = true := by simp [hqx]
                      have HQX : Hid ((q == x) = false) := (by simp [hqx] : (q == x) = false)
                      clear hqx
                      go_wp2_with (at_builtin; refine wpList_append_lies _ rfl _ _ 24 rfl 0 2 i2 _ 1 8 Try.underlying24 hi2 hz20 hz21 hz22 rfl (by omega) u13 (struck (ls.take k4) x).length (ints (struck (ls.take k4) x)) rfl (hrow.alloc _) ⟨wr.heap.size, 0, none⟩ 1 1 [.int .i64 q] rfl rfl (World.news_of_block (cs := #[.int .i64 q]) (t := 2) (fr := (0, 0)) (heap_alloc_new wr _)) (by simp [Value.oneCell']) (by omega) (by simp only [maxLen]; omega) (by omega) (by omega) (wr.heap.size + 1) (by simp) ?_)
                      intro g5 cap5 w5 own5 hgrow5 hat5 hlt5
                      have HFIN : Hid (w5.ownsRow 0 2 1 (.slice (some ⟨g5, 0, none⟩) ((struck (ls.take k4) x).length + 1) cap5) (struck (ls.take (k4 + 1)) x).length (ints (struck (ls.take (k4 + 1)) x)) ∧ offX (fun b => b < w3.heap.size) (.slice (some ⟨g5, 0, none⟩) ((struck (ls.take k4) x).length + 1) cap5) ∧ Keeps (fun b => b < w3.heap.size) w3 w5) := by
                        refine ⟨?_, ?_, (hkp.alloc _).grown hgrow5 (fun y hy => hoff y hy)⟩
                        · rw [HST.out, HQX.out, if_neg (by simp), ints_snoc]
                          simpa using own5
                        · intro y hy hX
                          exact off_new hat5 (n := (struck (ls.take k4) x).length + 1) (cap := cap5) (k := y) (by omega) (fun hv => hoff y hv hX) hy
                      clear own5 hgrow5 hat5 hlt5 hrow hkp hoff
                      go_wp2_with fail
                      go_roundw
                      case rel => exact ⟨k4 + 1, by omega, by go_num, HFIN.out⟩
                      case measure => simp [intOf]; omega
                  · have hkl : k4 = ls.length := by omega
                    have dk4 : decide ((k4 : Int) < (ls.length : Int)) = false := by simp; omega
                    rw [hkl, List.take_length] at hrow
                    have hir := owns_ints hrow
                    have hrf : ∃ a n c, u13 = .slice a n c := by obtain ⟨a, c, h, _⟩ := hir; exact ⟨_, _, _, h⟩
                    have hiw : IntsAt wr (.slice (some ⟨w.heap.size, 0, none⟩) (ids.length + 1) (ids.length + 1)) (ids.take pos ++ [x] ++ ids.drop pos) :=
                      (owns_ints HW3.out.1).below (hkp.below _ (Nat.le_refl _) (fun _ h => h))
                    have hii := HI.out.below hbw
                    have hil := HL.out.below hbw
                    have hwl : (ids.take pos ++ [x] ++ ids.drop pos).length ≤ 1000000 := by simp; omega
                    have hsl := struck_len ls x
                    obtain ⟨b, hb⟩ : ∃ b, leads ids self (struck ls x) = b := ⟨_, rfl⟩
                    have hb' : leads (ids.take pos ++ [x] ++ ids.drop pos) self ls = b := by rw [leads_insert]; exact hb
                    have HBA := hide hb
                    have HBB := hide hb'
                    have HBW := hide hbw
                    obtain ⟨ra, rn, rc, rfl⟩ := hrf
                    clear hb hb' hrow hoff hkp hkl HW3 HO4 HB4 fi fl hbw
                    go_wp2_with fail
                    refine (answers_any _ _ _ hiw hwl).mono ?_
                    rintro e w6 ⟨v6, rfl, hv6, hb6⟩
                    have hvf : ∃ a n c, v6 = .slice a n c := by obtain ⟨a, c, rfl, _⟩ := hv6; exact ⟨_, _, _, rfl⟩
                    obtain ⟨va, vn, vc, rfl⟩ := hvf
                    have hil6 := hil.below hb6
                    have hii6 := hii.below hb6
                    have hir6 := hir.below hb6
                    have HBW6 := hide (HBW.out.trans (hb6.mono HBW.out.size))
                    clear hb6 hil hii hir hiw HBW
                    go_wp2_with fail
                    refine (zzleads_b self _ _ _ _ ls _ _ hil6 hv6 hwl HAS.out (by omega) b HBB).mono ?_
                    rintro e w7 ⟨rfl, hb7⟩
                    have hii7 := hii6.below hb7
                    have hir7 := hir6.below hb7
                    have HBW7 := hide (HBW6.out.trans (hb7.mono HBW6.out.size))
                    clear hb7 hil6 hii6 hir6 HBW6 hv6
                    go_wp2_with fail
                    refine (answers_any _ _ _ hii7 (by omega)).mono ?_
                    rintro e w8 ⟨v8, rfl, hv8, hb8⟩
                    have hvf : ∃ a n c, v8 = .slice a n c := by obtain ⟨a, c, rfl, _⟩ := hv8; exact ⟨_, _, _, rfl⟩
                    obtain ⟨va8, vn8, vc8, rfl⟩ := hvf
                    have hii8 := hii7.below hb8
                    have hir8 := hir7.below hb8
                    have HBW8 := hide (HBW7.out.trans (hb8.mono HBW7.out.size))
                    clear hb8 hii7 hir7 HBW7
                    go_wp2_with fail
                    refine (zzleads_b self _ _ _ _ (struck ls x) _ _ hir8 hv8 (by omega) HS.out (by omega) b HBA).mono ?_
                    rintro e w9 ⟨rfl, hb9⟩
                    have hii9 := hii8.below hb9
                    have hir9 := hir8.below hb9
                    have HBW9 := hide (HBW8.out.trans (hb9.mono HBW8.out.size))
                    clear hb9 hii8 hir8 HBW8 hv8
                    cases b
                    all_goals
                      go_wp2_with fail
                      refine (model_b _ _ self (struck ls x) ids _ hir9 hii9 (by omega) (by omega) _ HBA).mono ?_
                      rintro e w10 ⟨rfl, hw10⟩
                      obtain rfl := hw10.symm
                      go_wp2_with fail
                      go_ret
                      exact ⟨rfl, HBW9.out⟩

end Go.Proofs.Qxb6613901a
