import Derived.Test.Qxb6613909aListLaw
namespace Go.Proofs.Qxb6613909a
open Go Go.RowKit

set_option maxRecDepth 100000 in
set_option maxHeartbeats 1600000 in
theorem bytes11 (v : Value) (k : Int) (f : Nat) (t : ByteArray) (ss : List ByteArray) (w : World) (hv : StrsAt w v ss) (hl : ss.length ≤ maxLen) (hs : ∀ s ∈ ss, s.size ≤ maxLen) (ht : t.size ≤ maxLen) :
    Calls Try.prog 11 #[v, .int .i64 k, .float .f64 f, .string t] w fun e w' => Looked e ss.length 1048576 ∧ w' = w := by
  unfold maxLen at hl ht
  obtain ⟨ao, cap, rfl, hcap, f⟩ := hv
  by_cases g1 : 1048576 < ss.length
  · go_enter Try.func11, Try.ntmps11
    go_wp2
    go_ret
    exact ⟨Looked.no _ _, rfl⟩
  · go_enter Try.func11, Try.ntmps11
    go_wp2_with fail
    go_loop [9, 10] (fun n i => ∃ (m : Nat) (z : Int), m ≤ ss.length ∧ i = .int .i64 m ∧ n = .int .i64 z ∧ 0 ≤ z ∧ z ≤ 1048576) (fun _ i => ss.length - (intOf i).toNat)
    case atStart => exact ⟨0, ss.length, Nat.zero_le _, rfl, rfl, by omega, by omega⟩
    case round =>
      obtain ⟨m, z, hm, rfl, rfl, hz0, hz1⟩ := hrel
      by_cases hlt : m < ss.length
      · obtain ⟨b, off, rfl, hcell⟩ := f (by omega)
        obtain ⟨s, hsm⟩ : ∃ s, ss[m]? = some s := ⟨_, List.getElem?_eq_getElem hlt⟩
        have c0 := hcell m s hsm
        have hsz := hs s (List.mem_of_getElem? hsm)
        unfold maxLen at hsz
        have m0 : (0 : Int) ≤ (m : Int) := by omega
        have m1 : (m : Int) < (ss.length : Int) := by omega
        clear hcell f hsm hs
        by_cases g2 : 1048576 < s.size
        · go_wp2_with fail
          go_ret
          exact ⟨Looked.no _ _, rfl⟩
        · by_cases g3 : 1048576 < z + s.size
          · go_wp2_with fail
            go_ret
            exact ⟨Looked.no _ _, rfl⟩
          · go_wp2_with fail
            go_round
            case rel => exact ⟨m + 1, z + s.size, by omega, by go_num, rfl, by omega, by omega⟩
            case measure => simp [intOf]; omega
      · have dm : decide ((m : Int) < (ss.length : Int)) = false := by simp; omega
        clear hs f
        by_cases g2 : 1048576 < t.size
        · go_wp2_with fail
          go_ret
          exact ⟨Looked.no _ _, rfl⟩
        · by_cases g3 : 1048576 < z + t.size
          · go_wp2_with fail
            go_ret
            exact ⟨Looked.no _ _, rfl⟩
          · go_wp2_with fail
            go_ret
            exact ⟨Looked.yes (by omega), rfl⟩

theorem one_new (w : World) (t : ByteArray) : StrsAt (w.alloc (.cells #[.string t] 9)) (.slice (some ⟨w.heap.size, 0, none⟩) 1 1) [t] := by
  refine ⟨_, 1, rfl, Nat.le_refl _, fun _ => ⟨w.heap.size, 0, rfl, fun k s hk => ?_⟩⟩
  have hk0 := (List.getElem?_eq_some_iff.1 hk).1
  obtain rfl : k = 0 := by simpa using hk0
  simp at hk
  subst hk
  exact cell_one_new w (.string t) 9 0 (.string t) rfl

set_option maxRecDepth 100000 in
set_option maxHeartbeats 3200000 in
theorem num_any (k : Int) (f : Nat) (t : ByteArray) (xv : Value) (ss : List ByteArray) (w : World) (hx : StrsAt w xv ss) (hlm : ss.length ≤ maxLen) (hs : ∀ s ∈ ss, s.size ≤ maxLen) (ht : t.size ≤ maxLen) (hnil : xv = .slice none 0 0 ∨ ∃ a n c, xv = .slice (some a) n c) :
    Calls Try.prog 5 #[xv, .int .i64 k, .float .f64 f, .string t] w fun e w' => e = .returned (.bool true) ∧ Below w.heap.size w w' := by
  obtain ⟨i9, hi9, hz0, hz1, hz2⟩ := info_parts info9
  have hx' := hx
  obtain ⟨xa, xc, rfl, hxc, -⟩ := hx'
  have qn := fun w => run_neq_slice_nil_any (P := Try.prog) w 22 9 xa ss.length xc 0 0 Try.underlying22
  have qz := fun w => run_neq_slice_nil_any (P := Try.prog) w 22 9 none 0 0 0 0 Try.underlying22
  have hlm' := hlm
  have ht' := ht
  unfold maxLen at hlm' ht'
  go_enter Try.func5, Try.ntmps5
  go_wp2_with fail
  refine (bytes11 _ k f t ss w hx hlm hs ht).mono ?_
  rintro e w' ⟨⟨b, rfl, hb⟩, hw⟩
  obtain rfl := hw.symm
  cases b with
  | false =>
    clear hb
    go_wp2_with fail
    go_ret
    exact ⟨rfl, Below.refl _ _⟩
  | true =>
    have h1 := hb rfl
    clear hb
    by_cases g1 : 1048576 < t.size
    · go_wp2_with fail
      go_ret
      exact ⟨rfl, Below.refl _ _⟩
    have d1 : decide (1048576 < (t.size : Int)) = false := by simp; omega
    go_wp2_with fail
    refine (fit7 _ _ ss w hx h1).mono ?_
    rintro e w' ⟨⟨b, rfl, hb⟩, hw⟩
    obtain rfl := hw.symm
    cases b with
    | false =>
      clear hb
      go_wp2_with fail
      go_ret
      exact ⟨rfl, Below.refl _ _⟩
    | true =>
      have h2 := hb rfl
      clear hb
      by_cases hbad : 0 < ss.length ∧ (k < 0 ∨ (ss.length : Int) ≤ k)
      · obtain ⟨p0, p1⟩ := hbad
        have dp0 : decide (0 < (ss.length : Int)) = true := by simp; omega
        by_cases g3 : k < 0
        · clear p1
          go_wp2_with fail
          go_ret
          exact ⟨rfl, Below.refl _ _⟩
        · have d3 : decide (k < 0) = false := by simpa using g3
          have d4 : decide ((ss.length : Int) ≤ k) = true := by simp; omega
          clear p1
          go_wp2_with fail
          go_ret
          exact ⟨rfl, Below.refl _ _⟩
      · have hgood : 0 < ss.length → 0 ≤ k ∧ k < ss.length := by omega
        have HG := hide hgood
        clear hbad hgood
        go_upto_region 7 with fail
        go_cut [45] (fun c wx => c = .bool false ∧ w = wx)
        case first =>
          by_cases h0 : ss.length = 0
          · have dp0 : decide (0 < (ss.length : Int)) = false := decide_eq_false (by omega)
            have dn0 : decide (0 < ss.length) = false := decide_eq_false (by omega)
            clear h0
            go_wp2_with fail
            go_meet
            case rel => exact ⟨rfl, rfl⟩
          · obtain ⟨k0, k1⟩ := HG.out (by omega)
            have dp0 : decide (0 < (ss.length : Int)) = true := by simp; omega
            have d3 : decide (k < 0) = false := by simp; omega
            have d4 : decide ((ss.length : Int) ≤ k) = false := by simp; omega
            clear k0 k1
            go_wp2_with fail
            go_meet
            case rel => exact ⟨rfl, rfl⟩
        case rest =>
          obtain ⟨rfl, rfl⟩ := hcut
          go_upto_if 47 with fail
          go_cut [0, 9] (fun x0 x9 wx => ∃ a c, x0 = .slice a ss.length c ∧ Hid (StrsAt wx (.slice a ss.length c) ss) ∧ Hid (Below w.heap.size w wx))
          case first =>
            cases xa with
            | none =>
              go_wp2_with fail
              go_meet
              case rel => exact ⟨_, _, rfl, hx, Below.refl _ _⟩
            | some a =>
              go_wp2_with (at_make; refine wpList_make_full _ rfl _ _ 22 rfl 0 9 i9 (.string ByteArray.empty) 1 Try.underlying22 hi9 hz0 hz1 _ _ _ _ ss.length rfl rfl rfl rfl (by rw [hz2]; omega) (by unfold maxLen; omega) (by omega) ?_)
              intro w1 own1 hgrow1
              have bel1 : Below w.heap.size w w1 := ⟨hgrow1.os, hgrow1.tape, hgrow1.output, hgrow1.size, fun k hk => hgrow1.block k hk (by simp)⟩
              obtain ⟨hzl, hblk⟩ := row_block own1
              generalize (madeCells #[Value.string ByteArray.empty] ss.length).toList = zs at hzl hblk
              have hx1 := hx.below bel1
              obtain ⟨w2, hrun, hx2, hB2⟩ := copy_run w w1 _ _ _ _ _ zs ss hblk hzl rfl hlm hx1 bel1 (Nat.le_refl _)
              have HX2 := hide hx2
              have HB2 := hide hB2
              clear own1 hgrow1 hx1 hx2 hB2
              go_wp2_with fail
              go_meet
              case rel => exact ⟨_, _, rfl, HX2.out, HB2.out⟩
          case rest =>
            obtain ⟨a, c, rfl, HX, HB⟩ := hcut
            clear hx qn hnil hs hxc hlm hlm' h1
            go_wp2_with fail
            refine (ofString_any t _).mono ?_
            rintro e w1 ⟨g1, rfl, hc1, hb1⟩
            have HX1 := hide (HX.out.below hb1)
            have HB1 := hide (HB.out.trans (hb1.mono HB.out.size))
            clear hb1 HX HB
            have HZ : Hid (StrsAt (w1.alloc (.cells #[.string t] 9)) (.slice (some ⟨w1.heap.size, 0, none⟩) 1 1) [t]) := one_new w1 t
            have hal : Below w1.heap.size w1 (w1.alloc (.cells #[.string t] 9)) := (Below.refl _ _).alloc (Nat.le_refl _) _
            have HXA := hide (HX1.out.below hal)
            have HBA := hide (HB1.out.trans (hal.mono HB1.out.size))
            clear hal HX1 HB1
            go_wp2_with fail
            refine (ofList_at _ [t] 1 _ HZ.out rfl (by omega)).mono ?_
            rintro e w2 ⟨g2, rfl, hc2, hb2⟩
            have cz := strs_cell hc2 (i := 0) (s := t) rfl
            have HX2 := hide (HXA.out.below hb2)
            have HB2 := hide (HBA.out.trans (hb2.mono HBA.out.size))
            clear hb2 HXA HBA HZ hc1 hc2
            by_cases h0 : ss.length = 0
            · have dp0 : decide (0 < (ss.length : Int)) = false := decide_eq_false (by omega)
              have dn0 : decide (0 < ss.length) = false := decide_eq_false (by omega)
              clear h0
              go_wp2_with (go_at_call 13; refine (ofNull_any _).mono ?_; rintro e w3 ⟨rfl, hw⟩; obtain rfl := hw.symm)
              go_ret
              exact ⟨rfl, HB2.out⟩
            · obtain ⟨k0, k1⟩ := HG.out (by omega)
              have dp0 : decide (0 < (ss.length : Int)) = true := decide_eq_true (by omega)
              have dn0 : decide (0 < ss.length) = true := decide_eq_true (by omega)
              clear h0
              go_wp2_with (first | (go_at_call 13; refine (ofNull_any _).mono ?_; rintro e w3 ⟨rfl, hw⟩; obtain rfl := hw.symm) | (go_at_call 8; refine (ofList_refuse _ ss k f _ HX2.out h2 k0 k1).mono ?_; rintro e w4 ⟨rfl, hb4⟩))
              go_ret
              exact ⟨rfl, HB2.out.trans (hb4.mono HB2.out.size)⟩

end Go.Proofs.Qxb6613909a
