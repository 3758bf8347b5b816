import Derived.Test.Qxb6613909aOfs
import Derived.Deep.DeepCutAuto
import Derived.Deep.Cut
namespace Go.Proofs.Qxb6613909a
open Go Go.RowKit

theorem ofList_at (xv : Value) (ss : List ByteArray) (n : Nat) (w : World) (hx : StrsAt w xv ss) (hn : ss.length = n) (hl : n ≤ 65536) :
    Calls Try.prog 8 #[xv, .int .i64 (-1), .float .f64 0] w fun e w' => ∃ g, e = .returned (.tuple #[.slice (some ⟨g, 0, none⟩) n n, .bool true]) ∧ StrsAt w' (.slice (some ⟨g, 0, none⟩) n n) ss ∧ Below w.heap.size w w' := by
  subst hn
  refine (ofList_list xv ss (-1) 0 w hx hl (by omega)).mono ?_
  rintro e w' ⟨g, rfl, ho, hb⟩
  exact ⟨g, rfl, owns_strs ho (Nat.le_refl _), hb⟩

theorem strs_cell {w : World} {g n c : Nat} {ss : List ByteArray} (h : StrsAt w (.slice (some ⟨g, 0, none⟩) n c) ss) {i : Nat} {s : ByteArray} (hi : ss[i]? = some s) : w.cell? ⟨g, i, none⟩ = some (.string s) := by
  obtain ⟨ao, cap, e, -, f⟩ := h
  have hl := (List.getElem?_eq_some_iff.1 hi).1
  obtain ⟨b, off, rfl, k⟩ := f (by omega)
  simp only [Value.slice.injEq, Option.some.injEq, Addr.mk.injEq] at e
  obtain ⟨⟨rfl, rfl, -⟩, -, -⟩ := e
  have := k i s hi
  rwa [Nat.zero_add] at this

theorem drew_below {B n : Nat} {w w' : World} (h : Below B w w') : Below B w (w'.drewN n) := ⟨h.os, h.tape, h.output, h.size, h.block⟩

theorem row_block {w : World} {e g n : Nat} {xs : List Value} (h : w.ownsRow 0 e 1 (.slice (some ⟨g, 0, none⟩) n n) n xs) : xs.length = n ∧ w.heap[g]? = some (.cells xs.toArray e (0, 0)) := by
  obtain ⟨hl, ⟨h0, -⟩ | ⟨g', cap, cur, e1, -, hh, -, -, hs, ht⟩⟩ := h
  · simp at h0
  · simp only [Value.slice.injEq, Option.some.injEq, Addr.mk.injEq, and_true, true_and] at e1
    obtain ⟨rfl, rfl⟩ := e1
    refine ⟨by omega, ?_⟩
    rw [hh, ← ht, List.take_of_length_le (by simp; omega)]

theorem block_strs {w : World} {g n : Nat} {ss : List ByteArray} (hn : ss.length = n) (hm : n ≤ maxLen) (zs : List Value) (hz : zs.length = n) (h : w.heap[g]? = some (.cells (splice zs 0 (strs ss)).toArray 9 (0, 0))) : StrsAt w (.slice (some ⟨g, 0, none⟩) n n) ss := by
  subst hn
  have e : splice zs 0 (strs ss) = strs ss := by
    simp only [splice, List.take_zero, List.nil_append, Nat.zero_add]
    rw [List.drop_eq_nil_of_le (by rw [strs_length]; omega), List.append_nil]
  rw [e] at h
  exact owns_strs ⟨by rw [strs_length]; omega, .inr ⟨g, ss.length, (strs ss).toArray, rfl, Nat.zero_le _, h, Nat.le_refl _, hm, by simp [strs_length], by simpa using List.take_of_length_le (by rw [strs_length]; exact Nat.le_refl _)⟩⟩ (Nat.le_refl _)

theorem strs_src {w : World} {a : Addr} {n c : Nat} {ss : List ByteArray} (h : StrsAt w (.slice (some a) n c) ss) (h0 : 0 < ss.length) : ∀ j v, (strs ss)[j]? = some v → w.cell? (a.add j) = some v := by
  intro j v hv
  obtain ⟨ao, cap, e, -, f⟩ := h
  obtain ⟨b, off, rfl, k⟩ := f h0
  simp only [Value.slice.injEq, Option.some.injEq] at e
  obtain ⟨rfl, -, -⟩ := e
  rw [Go.WideShapes.add_plain]
  simp only [strs, List.getElem?_map, Option.map_eq_some_iff] at hv
  obtain ⟨s, hs, rfl⟩ := hv
  exact k j s hs

theorem copy_run (w0 w1 : World) (B g n c : Nat) (a : Addr) (zs : List Value) (ss : List ByteArray) (hblk : w1.heap[g]? = some (.cells zs.toArray 9 (0, 0))) (hzl : zs.length = n) (hn : ss.length = n) (hm : n ≤ maxLen) (hx : StrsAt w1 (.slice (some a) n c) ss) (hb : Below B w0 w1) (hBg : B ≤ g) :
    ∃ w2, (Builtin.copy_ #[22, 22] 3 #[.slice (some ⟨g, 0, none⟩) n n, .slice (some a) n c]).run Try.prog w1 = .ok (.int .i64 n) w2 ∧ StrsAt w2 (.slice (some ⟨g, 0, none⟩) n n) ss ∧ Below B w0 w2 := by
  obtain ⟨i9, hi9, hz0, hz1, hz2⟩ := info_parts info9
  have hsz9 : (Try.prog.info? 9).map (·.size) = some 1 := by rw [hi9]; simp [hz1]
  by_cases h0 : n = 0
  · refine ⟨w1, ?_, ?_, hb⟩
    · rw [run_copy_none (P := Try.prog) w1 22 22 3 9 _ _ _ _ _ _ Try.underlying22 hsz9 (by rw [h0]; rfl), h0]; rfl
    · exact ⟨_, n, by rw [hn], by omega, fun h => absurd h (by omega)⟩
  · have hr := run_copy_row (P := Try.prog) w1 22 22 3 9 g 0 n n a n c zs.toArray 9 (strs ss) Try.underlying22 hsz9 hblk (by rw [strs_length, hn]; simp) (strs_src hx (by omega)) (by simp [strs_length]; omega) (by simp [strs, Value.oneCell'])
    refine ⟨_, hr.trans (by rw [strs_length, hn]; rfl), block_strs hn hm zs hzl ?_, below_setRow hb hBg _⟩
    simpa [splice, strs_length, hn] using setRow_heap w1 g _ (strs ss ++ List.drop n zs).toArray 9 _ hblk

set_option maxRecDepth 100000 in
set_option maxHeartbeats 3200000 in
theorem list_any (k : Int) (xv : Value) (ss : List ByteArray) (w : World) (hx : StrsAt w xv ss) (hlm : ss.length ≤ maxLen) (hs : ∀ s ∈ ss, s.size ≤ maxLen) (hnil : xv = .slice none 0 0 ∨ ∃ a n c, xv = .slice (some a) n c) :
    Calls Try.prog 3 #[xv, .int .i64 k] w fun e w' => e = .returned (.bool true) ∧ Below w.heap.size w w' := by
  obtain ⟨i9, hi9, hz0, hz1, hz2⟩ := info_parts info9
  have hx' := hx
  obtain ⟨xa, xc, rfl, hxc, -⟩ := hx'
  have qn := fun w => run_neq_slice_nil_any (P := Try.prog) w 22 9 xa ss.length xc 0 0 Try.underlying22
  have hlm' := hlm
  unfold maxLen at hlm'
  go_enter Try.func3, Try.ntmps3
  go_wp2_with fail
  refine (bytes6 _ k ss w hx hlm hs).mono ?_
  rintro e w' ⟨⟨b, rfl, hb⟩, hw⟩
  obtain rfl := hw.symm
  cases b with
  | false =>
    clear hb
    go_wp2_with fail
    go_ret
    exact ⟨rfl, Below.refl _ _⟩
  | true =>
    have h1 := hb rfl
    clear hb
    go_wp2_with fail
    refine (fit7 _ _ ss w hx h1).mono ?_
    rintro e w' ⟨⟨b, rfl, hb⟩, hw⟩
    obtain rfl := hw.symm
    cases b with
    | false =>
      clear hb
      go_wp2_with fail
      go_ret
      exact ⟨rfl, Below.refl _ _⟩
    | true =>
      have h2 := hb rfl
      clear hb
      by_cases g3 : k < 0
      · go_wp2_with fail
        go_ret
        exact ⟨rfl, Below.refl _ _⟩
      have d3 : decide (k < 0) = false := by simpa using g3
      by_cases g4 : (ss.length : Int) < k
      · go_wp2_with fail
        go_ret
        exact ⟨rfl, Below.refl _ _⟩
      have d4 : decide ((ss.length : Int) < k) = false := by simpa using g4
      obtain ⟨m, rfl⟩ : ∃ m : Nat, k = m := ⟨k.toNat, by omega⟩
      have hm : m ≤ ss.length := by omega
      go_upto_if 31 with fail
      go_cut [0, 5] (fun x0 x5 wx => ∃ a c, x0 = .slice a ss.length c ∧ StrsAt wx (.slice a ss.length c) ss ∧ Below w.heap.size w wx)
      case first =>
        cases xa with
        | none =>
          go_wp2_with fail
          go_meet
          case rel => exact ⟨_, _, rfl, hx, Below.refl _ _⟩
        | some a =>
          go_wp2_with (at_make; refine wpList_make_full _ rfl _ _ 22 rfl 0 9 i9 (.string ByteArray.empty) 1 Try.underlying22 hi9 hz0 hz1 _ _ _ _ ss.length rfl rfl rfl rfl (by rw [hz2]; omega) (by unfold maxLen; omega) (by omega) ?_)
          intro w1 own1 hgrow1
          have bel1 : Below w.heap.size w w1 := ⟨hgrow1.os, hgrow1.tape, hgrow1.output, hgrow1.size, fun k hk => hgrow1.block k hk (by simp)⟩
          obtain ⟨hzl, hblk⟩ := row_block own1
          generalize (madeCells #[Value.string ByteArray.empty] ss.length).toList = zs at hzl hblk
          have hx1 := hx.below bel1
          obtain ⟨w2, hrun, hx2, hB2⟩ := copy_run w w1 _ _ _ _ _ zs ss hblk hzl rfl hlm hx1 bel1 (Nat.le_refl _)
          have HX2 := hide hx2
          have HB2 := hide hB2
          clear own1 hgrow1 hx1 hx2 hB2
          go_wp2_with fail
          go_meet
          case rel => exact ⟨_, _, rfl, HX2.out, HB2.out⟩
      case rest =>
        obtain ⟨a, c, rfl, hxs, hbel⟩ := hcut
        clear hx qn hnil hs hxc hlm hlm' h1
        obtain ⟨ta, hta⟩ : ∃ t, ss.take m = t := ⟨_, rfl⟩
        obtain ⟨td, htd⟩ : ∃ t, ss.drop m = t := ⟨_, rfl⟩
        obtain ⟨q, hq⟩ : ∃ q, ss.length = m + q := ⟨ss.length - m, by omega⟩
        have htl : ta.length = m := by rw [← hta]; simp; omega
        have hdl : td.length = q := by rw [← htd]; simp; omega
        have HQ := hide hq
        have HTL := hide htl
        have HDL := hide hdl
        have hmq : m + q ≤ 65536 := by omega
        clear hq htl hdl
        have hsz0 := hbel.size
        go_wp2_with fail
        refine (ofList_at _ ss _ _ hxs rfl h2).mono ?_
        rintro e w1 ⟨g1, rfl, ho1, hb1⟩
        have hx1 := hxs.below hb1
        have hB1 := hbel.trans (hb1.mono hsz0)
        have HO1 := hide ho1
        have HX1 := hide hx1
        have HB1 := hide hB1
        have HTA := hide hta
        have HTD := hide htd
        have hcm : ss.length ≤ c := by obtain ⟨_, _, e, h, -⟩ := hx1; simp only [Value.slice.injEq] at e; omega
        have hsz1 := hB1.size
        clear ho1 hx1 hb1 hxs hbel hB1 hta htd
        go_wp2_with fail
        go_loopw [8] (fun iv wr => ∃ i : Nat, i ≤ ss.length ∧ iv = .int .i64 i ∧ Hid (StrsAt wr (.slice (some ⟨g1, 0, none⟩) ss.length ss.length) ss) ∧ Hid (StrsAt wr (.slice a ss.length c) ss) ∧ Hid (Below w.heap.size w wr)) (fun iv _ => ss.length - (intOf iv).toNat)
        case atStart => exact ⟨0, Nat.zero_le _, rfl, HO1, HX1, HB1⟩
        case round =>
          clear HO1 HX1 HB1 hsz1
          obtain ⟨i, hi, rfl, HO1, HX1, HB1⟩ := hrel
          have hsz1 := HB1.out.size
          by_cases hlt : i < ss.length
          · obtain ⟨s, hs⟩ : ∃ s, ss[i]? = some s := ⟨_, List.getElem?_eq_getElem hlt⟩
            have c6 := strs_cell HO1.out hs
            obtain ⟨_, _, e, -, fx⟩ := HX1.out
            simp only [Value.slice.injEq, true_and] at e
            obtain ⟨rfl, rfl⟩ := e
            obtain ⟨b, off, rfl, hcell⟩ := fx (by omega)
            have c0 := hcell i s hs
            have m0 : (0 : Int) ≤ (i : Int) := by omega
            have m1 : (i : Int) < (ss.length : Int) := by omega
            clear fx hcell hs
            go_wp2_with fail
            go_quiet (fail)
            go_wp2_with fail
            go_roundw
            case rel => exact ⟨i + 1, by omega, by go_num, HO1.out, HX1.out, drew_below HB1.out⟩
            case measure => simp [intOf]; omega
          · have hin : i = ss.length := by omega
            have di : decide ((i : Int) < (ss.length : Int)) = false := by simp; omega
            have k0 : (0 : Int) ≤ (m : Int) := by omega
            have k1 : (m : Int) ≤ (c : Int) := by omega
            go_wp2_with fail
            refine (ofList_at _ ta m _ (HTA.out ▸ HX1.out.take m hm) HTL.out (by omega)).mono ?_
            rintro e w2 ⟨g2, rfl, ho2, hb2⟩
            have hx2 := HX1.out.below hb2
            have hB2 := HB1.out.trans (hb2.mono hsz1)
            have HO2 := hide ho2
            have HX2 := hide hx2
            have HB2 := hide hB2
            have HO12 := hide (HO1.out.below hb2)
            have hsz2 := hB2.size
            clear ho2 hx2 hb2 hB2 HX1 HB1 HO1 hsz1
            go_upto_region 20 with fail
            go_cut [11, 12] (fun x11 x12 wx => ∃ g, x11 = .slice (some ⟨g, 0, none⟩) q q ∧ x12 = .bool true ∧ Hid (StrsAt wx (.slice (some ⟨g, 0, none⟩) q q) td) ∧ Hid (StrsAt wx (.slice (some ⟨g2, 0, none⟩) m m) ta) ∧ Hid (StrsAt wx (.slice (some ⟨g1, 0, none⟩) ss.length ss.length) ss) ∧ Hid (Below w.heap.size w wx))
            case first =>
              by_cases hck : c = m
              · subst hck
                have HD : Hid (StrsAt w2 (.slice a 0 0) td) := StrsAt.none _ _ _ rfl _ (List.eq_nil_of_length_eq_zero (by have := HQ.out; have := HDL.out; omega))
                go_wp2_with fail
                refine (ofList_at _ td q _ HD.out HDL.out (by omega)).mono ?_
                rintro e w3 ⟨g3, rfl, ho3, hb3⟩
                have HE := hide (And.intro ho3 hb3)
                clear ho3 hb3
                go_wp2_with fail
                go_meet
                case rel => exact ⟨g3, rfl, rfl, HE.out.1, HO2.out.below HE.out.2, HO12.out.below HE.out.2, HB2.out.trans (HE.out.2.mono hsz2)⟩
              · have HD : Hid (StrsAt w2 (.slice (Option.map (fun x => x.add m) a) (ss.length - m) (c - m)) td) := HTD.out ▸ HX2.out.drop m hm
                go_wp2_with fail
                refine (ofList_at _ td q _ HD.out HDL.out (by omega)).mono ?_
                rintro e w3 ⟨g3, rfl, ho3, hb3⟩
                have HE := hide (And.intro ho3 hb3)
                clear ho3 hb3
                go_wp2_with fail
                go_meet
                case rel => exact ⟨g3, rfl, rfl, HE.out.1, HO2.out.below HE.out.2, HO12.out.below HE.out.2, HB2.out.trans (HE.out.2.mono hsz2)⟩
            case rest =>
              clear HO2 HX2 HB2 HO12 hsz2 hsz0
              obtain ⟨g3, rfl, rfl, HO3, HO2, HO1, HB⟩ := hcut
              have dq : (((m : Int) + (q : Int)) != (ss.length : Int)) = false := by have := HQ.out; simp; omega
              go_wp2_with fail
              go_loopw [13] (fun iv wr => ∃ i : Nat, i ≤ m ∧ iv = .int .i64 i ∧ Hid (StrsAt wr (.slice (some ⟨g3, 0, none⟩) q q) td) ∧ Hid (StrsAt wr (.slice (some ⟨g2, 0, none⟩) m m) ta) ∧ Hid (StrsAt wr (.slice (some ⟨g1, 0, none⟩) ss.length ss.length) ss) ∧ Hid (Below w.heap.size w wr)) (fun iv _ => m - (intOf iv).toNat)
              case atStart => exact ⟨0, Nat.zero_le _, rfl, HO3, HO2, HO1, HB⟩
              case round =>
                clear HO3 HO2 HO1 HB
                obtain ⟨j, hj, rfl, HO3, HO2, HO1, HB⟩ := hrel
                by_cases hlj : j < m
                · obtain ⟨s, hs⟩ : ∃ s, ss[j]? = some s := ⟨_, List.getElem?_eq_getElem (by omega)⟩
                  have hs2 : ta[j]? = some s := by rw [← HTA.out, List.getElem?_take, if_pos hlj]; exact hs
                  have c6 := strs_cell HO1.out hs
                  have c9 := strs_cell HO2.out hs2
                  have m0 : (0 : Int) ≤ (j : Int) := by omega
                  have m1 : (j : Int) < (ss.length : Int) := by omega
                  have m2 : (j : Int) < (m : Int) := by omega
                  clear hs hs2
                  go_wp2_with fail
                  go_quiet (fail)
                  go_wp2_with fail
                  go_roundw
                  case rel => exact ⟨j + 1, by omega, by go_num, HO3.out, HO2.out, HO1.out, drew_below HB.out⟩
                  case measure => simp [intOf]; omega
                · have dj : decide ((j : Int) < (m : Int)) = false := by simp; omega
                  go_wp2_with fail
                  go_loopw [14] (fun iv wr => ∃ i : Nat, i ≤ q ∧ iv = .int .i64 i ∧ Hid (StrsAt wr (.slice (some ⟨g3, 0, none⟩) q q) td) ∧ Hid (StrsAt wr (.slice (some ⟨g1, 0, none⟩) ss.length ss.length) ss) ∧ Hid (Below w.heap.size w wr)) (fun iv _ => q - (intOf iv).toNat)
                  case atStart => exact ⟨0, Nat.zero_le _, rfl, HO3, HO1, HB⟩
                  case round =>
                    clear HO3 HO2 HO1 HB
                    obtain ⟨p, hp, rfl, HO3, HO1, HB⟩ := hrel
                    by_cases hlp : p < q
                    · obtain ⟨s, hs⟩ : ∃ s, ss[m + p]? = some s := ⟨_, List.getElem?_eq_getElem (by have := HQ.out; omega)⟩
                      have hs3 : td[p]? = some s := by rw [← HTD.out, List.getElem?_drop]; exact hs
                      have c6 := strs_cell HO1.out hs
                      have c11 := strs_cell HO3.out hs3
                      have m0 : (0 : Int) ≤ (p : Int) := by omega
                      have m1 : (m : Int) + (p : Int) < (ss.length : Int) := by have := HQ.out; omega
                      have m2 : (p : Int) < (q : Int) := by omega
                      have m3 : (0 : Int) ≤ (m : Int) + (p : Int) := by omega
                      have m4 : ((m : Int) + (p : Int)).toNat = m + p := by omega
                      clear hs hs3
                      go_wp2_with fail
                      go_quiet (fail)
                      go_wp2_with fail
                      go_roundw
                      case rel => exact ⟨p + 1, by omega, by go_num, HO3.out, HO1.out, drew_below HB.out⟩
                      case measure => simp [intOf]; omega
                    · have dp : decide ((p : Int) < (q : Int)) = false := by simp; omega
                      go_wp2_with fail
                      go_ret
                      exact ⟨rfl, HB.out⟩

end Go.Proofs.Qxb6613909a
