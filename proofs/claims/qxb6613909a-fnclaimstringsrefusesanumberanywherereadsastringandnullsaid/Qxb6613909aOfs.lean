import Derived.Test.Qxb6613909aClaim
namespace Go.Proofs.Qxb6613909a
open Go Go.RowKit

/-- The list of any so far. -/
def uptoV (vs : List Value) (k : Nat) : List Value := vs.take k ++ List.replicate (vs.length - k) .nilIface
theorem uptoV_zero (vs : List Value) : uptoV vs 0 = List.replicate vs.length .nilIface := by simp [uptoV]
theorem uptoV_end (vs : List Value) : uptoV vs vs.length = vs := by simp [uptoV]
theorem uptoV_length (vs : List Value) (k : Nat) (hk : k ≤ vs.length) : (uptoV vs k).length = vs.length := by simp [uptoV]; omega
theorem uptoV_succ (vs : List Value) (k : Nat) (x : Value) (h : vs[k]? = some x) : uptoV vs (k + 1) = (uptoV vs k).set k x := by
  obtain ⟨hk, rfl⟩ := List.getElem?_eq_some_iff.1 h
  have hl : (vs.take k).length = k := by simp; omega
  rw [uptoV, uptoV, List.take_succ_eq_append_getElem hk, List.set_append_right _ _ (by omega), hl, Nat.sub_self, show vs.length - k = (vs.length - (k + 1)) + 1 by omega, List.replicate_succ, List.set_cons_zero, List.append_assoc]
  rfl
theorem uptoV_at (vs : List Value) (k : Nat) (hk : k < vs.length) : (uptoV vs k)[k]? = some .nilIface := by
  have hl : (vs.take k).length = k := by simp; omega
  rw [uptoV, List.getElem?_append_right (by omega), hl, Nat.sub_self, List.getElem?_replicate, if_pos (by omega)]

set_option maxRecDepth 100000 in
set_option maxHeartbeats 1600000 in
theorem ofList_list (xv : Value) (ss : List ByteArray) (k : Int) (f : Nat) (w : World) (hx : StrsAt w xv ss) (hl : ss.length ≤ 65536) (hk : k < 0) :
    Calls Try.prog 8 #[xv, .int .i64 k, .float .f64 f] w fun e w' => ∃ g, e = .returned (.tuple #[.slice (some ⟨g, 0, none⟩) ss.length ss.length, .bool true]) ∧ w'.ownsRow 0 9 1 (.slice (some ⟨g, 0, none⟩) ss.length ss.length) ss.length (strs ss) ∧ Below w.heap.size w w' := by
  obtain ⟨i20, hi20, hz0, hz1, hz2⟩ := info_parts info20
  have hx' := hx
  obtain ⟨xa, xc, rfl, hxc, -⟩ := hx'
  have hal := anyAt_length ss k (.float .f64 f)
  go_enter Try.func8, Try.ntmps8
  go_wp2_with (at_make; refine wpList_make_full _ rfl _ _ 35 rfl 0 20 i20 .nilIface 1 Try.underlying35 hi20 hz0 hz1 _ _ _ _ ss.length rfl rfl rfl rfl (by rw [hz2]; omega) (by unfold maxLen; omega) (by omega) ?_)
  intro w1 own1 hgrow1
  have own2 : w1.ownsRow 0 20 1 (.slice (some ⟨w.heap.size, 0, none⟩) ss.length ss.length) ss.length (uptoV (anyAt ss k (.float .f64 f)) 0) := by
    have e : (madeCells #[Value.nilIface] ss.length).toList = uptoV (anyAt ss k (.float .f64 f)) 0 := by
      rw [uptoV_zero, hal, toList_madeCells_one]
    rw [← e]; simpa [Value.cells] using own1
  have bel1 : Below w.heap.size w w1 := ⟨hgrow1.os, hgrow1.tape, hgrow1.output, hgrow1.size, fun k hk => hgrow1.block k hk (by simp)⟩
  have HAL := hide hal
  clear own1 hgrow1 hal
  go_wp2_with fail
  go_loopw [9] (fun iv wr => ∃ i : Nat, i ≤ ss.length ∧ iv = .int .i64 i ∧ wr.ownsRow 0 20 1 (.slice (some ⟨w.heap.size, 0, none⟩) ss.length ss.length) ss.length (uptoV (anyAt ss k (.float .f64 f)) i) ∧ Below w.heap.size w wr) (fun iv _ => ss.length - (intOf iv).toNat)
  case atStart => exact ⟨0, Nat.zero_le _, rfl, own2, bel1⟩
  case round =>
    obtain ⟨i, hi, rfl, hrow, hbel⟩ := hrel
    clear own2 bel1
    by_cases hlt : i < ss.length
    · obtain ⟨_, _, e, -, fx⟩ := hx.below hbel
      simp only [Value.slice.injEq, true_and] at e
      obtain ⟨rfl, rfl⟩ := e
      obtain ⟨b, off, rfl, hcell⟩ := fx (by omega)
      obtain ⟨s, hs⟩ : ∃ s, ss[i]? = some s := ⟨_, List.getElem?_eq_getElem hlt⟩
      have c0 := hcell i s hs
      have m0 : (0 : Int) ≤ (i : Int) := by omega
      have m1 : (i : Int) < (ss.length : Int) := by omega
      have ca : wr.cell? ⟨w.heap.size, i, none⟩ = some .nilIface := by
        rw [hrow.cellAt i (by omega)]; exact uptoV_at _ i (by rw [HAL.out]; exact hlt)
      have fa : wr.frozen? ⟨w.heap.size, i, none⟩ = false := hrow.frozenAt i
      by_cases hik : (i : Int) = k
      · have hb : ((i : Int) == k) = true := by simp [hik]
        have HR : Hid ((wr.setCell ⟨w.heap.size, i, none⟩ (.iface 26 (.float .f64 f))).ownsRow 0 20 1 (.slice (some ⟨w.heap.size, 0, none⟩) ss.length ss.length) ss.length (uptoV (anyAt ss k (.float .f64 f)) (i + 1))) := by
          have := (hrow.stored i (.iface 26 (.float .f64 f))).1
          rwa [← uptoV_succ _ i _ (anyAt_num hlt hik)] at this
        have HB := hide hbel
        clear hcell fx hrow hbel hs hik
        go_wp2_with fail
        go_roundw
        case rel => exact ⟨i + 1, by omega, by go_num, HR.out, HB.out.setCell (Nat.le_refl _) _⟩
        case measure => simp [intOf]; omega
      · have hb : ((i : Int) == k) = false := by simp [hik]
        have HR : Hid ((wr.setCell ⟨w.heap.size, i, none⟩ (.iface 9 (.string s))).ownsRow 0 20 1 (.slice (some ⟨w.heap.size, 0, none⟩) ss.length ss.length) ss.length (uptoV (anyAt ss k (.float .f64 f)) (i + 1))) := by
          have := (hrow.stored i (.iface 9 (.string s))).1
          rwa [← uptoV_succ _ i _ (anyAt_str hs hik)] at this
        have HB := hide hbel
        clear hcell fx hrow hbel hs hik
        go_wp2_with fail
        go_roundw
        case rel => exact ⟨i + 1, by omega, by go_num, HR.out, HB.out.setCell (Nat.le_refl _) _⟩
        case measure => simp [intOf]; omega
    · have hin : i = ss.length := by omega
      have HV : Hid (AnysAt wr (.slice (some ⟨w.heap.size, 0, none⟩) ss.length ss.length) (anyAt ss k (.float .f64 f))) := by
        have e := uptoV_end (anyAt ss k (.float .f64 f))
        rw [HAL.out] at e
        rw [hin, e] at hrow
        refine ⟨_, _, by rw [HAL.out], by rw [HAL.out]; exact Nat.le_refl _, fun h0 => ⟨w.heap.size, owns_lt hrow rfl, rfl, fun j x hj => ?_⟩⟩
        have hjl := (List.getElem?_eq_some_iff.1 hj).1
        rw [HAL.out] at hjl
        rw [hrow.cellAt j (by omega)]; exact hj
      have HB := hide hbel
      have hsz := hbel.size
      have di : decide ((i : Int) < (ss.length : Int)) = false := by simp; omega
      clear hrow hbel hin
      go_wp2_with (go_at_call 14; refine (claim_list _ ss k _ _ HV.out hl hk).mono ?_; rintro e w2 ⟨g, rfl, ho2, hb2⟩)
      go_ret2
      exact ⟨g, rfl, ho2, HB.out.trans (hb2.mono hsz)⟩

set_option maxRecDepth 100000 in
set_option maxHeartbeats 1600000 in
theorem ofList_refuse (xv : Value) (ss : List ByteArray) (k : Int) (f : Nat) (w : World) (hx : StrsAt w xv ss) (hl : ss.length ≤ 65536) (hk0 : 0 ≤ k) (hk1 : k < ss.length) :
    Calls Try.prog 8 #[xv, .int .i64 k, .float .f64 f] w fun e w' => e = .returned (.tuple #[.slice none 0 0, .bool false]) ∧ Below w.heap.size w w' := by
  obtain ⟨i20, hi20, hz0, hz1, hz2⟩ := info_parts info20
  have hx' := hx
  obtain ⟨xa, xc, rfl, hxc, -⟩ := hx'
  have hal := anyAt_length ss k (.float .f64 f)
  go_enter Try.func8, Try.ntmps8
  go_wp2_with (at_make; refine wpList_make_full _ rfl _ _ 35 rfl 0 20 i20 .nilIface 1 Try.underlying35 hi20 hz0 hz1 _ _ _ _ ss.length rfl rfl rfl rfl (by rw [hz2]; omega) (by unfold maxLen; omega) (by omega) ?_)
  intro w1 own1 hgrow1
  have own2 : w1.ownsRow 0 20 1 (.slice (some ⟨w.heap.size, 0, none⟩) ss.length ss.length) ss.length (uptoV (anyAt ss k (.float .f64 f)) 0) := by
    have e : (madeCells #[Value.nilIface] ss.length).toList = uptoV (anyAt ss k (.float .f64 f)) 0 := by
      rw [uptoV_zero, hal, toList_madeCells_one]
    rw [← e]; simpa [Value.cells] using own1
  have bel1 : Below w.heap.size w w1 := ⟨hgrow1.os, hgrow1.tape, hgrow1.output, hgrow1.size, fun k hk => hgrow1.block k hk (by simp)⟩
  have HAL := hide hal
  clear own1 hgrow1 hal
  go_wp2_with fail
  go_loopw [9] (fun iv wr => ∃ i : Nat, i ≤ ss.length ∧ iv = .int .i64 i ∧ wr.ownsRow 0 20 1 (.slice (some ⟨w.heap.size, 0, none⟩) ss.length ss.length) ss.length (uptoV (anyAt ss k (.float .f64 f)) i) ∧ Below w.heap.size w wr) (fun iv _ => ss.length - (intOf iv).toNat)
  case atStart => exact ⟨0, Nat.zero_le _, rfl, own2, bel1⟩
  case round =>
    obtain ⟨i, hi, rfl, hrow, hbel⟩ := hrel
    clear own2 bel1
    by_cases hlt : i < ss.length
    · obtain ⟨_, _, e, -, fx⟩ := hx.below hbel
      simp only [Value.slice.injEq, true_and] at e
      obtain ⟨rfl, rfl⟩ := e
      obtain ⟨b, off, rfl, hcell⟩ := fx (by omega)
      obtain ⟨s, hs⟩ : ∃ s, ss[i]? = some s := ⟨_, List.getElem?_eq_getElem hlt⟩
      have c0 := hcell i s hs
      have m0 : (0 : Int) ≤ (i : Int) := by omega
      have m1 : (i : Int) < (ss.length : Int) := by omega
      have ca : wr.cell? ⟨w.heap.size, i, none⟩ = some .nilIface := by
        rw [hrow.cellAt i (by omega)]; exact uptoV_at _ i (by rw [HAL.out]; exact hlt)
      have fa : wr.frozen? ⟨w.heap.size, i, none⟩ = false := hrow.frozenAt i
      by_cases hik : (i : Int) = k
      · have hb : ((i : Int) == k) = true := by simp [hik]
        have HR : Hid ((wr.setCell ⟨w.heap.size, i, none⟩ (.iface 26 (.float .f64 f))).ownsRow 0 20 1 (.slice (some ⟨w.heap.size, 0, none⟩) ss.length ss.length) ss.length (uptoV (anyAt ss k (.float .f64 f)) (i + 1))) := by
          have := (hrow.stored i (.iface 26 (.float .f64 f))).1
          rwa [← uptoV_succ _ i _ (anyAt_num hlt hik)] at this
        have HB := hide hbel
        clear hcell fx hrow hbel hs hik
        go_wp2_with fail
        go_roundw
        case rel => exact ⟨i + 1, by omega, by go_num, HR.out, HB.out.setCell (Nat.le_refl _) _⟩
        case measure => simp [intOf]; omega
      · have hb : ((i : Int) == k) = false := by simp [hik]
        have HR : Hid ((wr.setCell ⟨w.heap.size, i, none⟩ (.iface 9 (.string s))).ownsRow 0 20 1 (.slice (some ⟨w.heap.size, 0, none⟩) ss.length ss.length) ss.length (uptoV (anyAt ss k (.float .f64 f)) (i + 1))) := by
          have := (hrow.stored i (.iface 9 (.string s))).1
          rwa [← uptoV_succ _ i _ (anyAt_str hs hik)] at this
        have HB := hide hbel
        clear hcell fx hrow hbel hs hik
        go_wp2_with fail
        go_roundw
        case rel => exact ⟨i + 1, by omega, by go_num, HR.out, HB.out.setCell (Nat.le_refl _) _⟩
        case measure => simp [intOf]; omega
    · have hin : i = ss.length := by omega
      have HV : Hid (AnysAt wr (.slice (some ⟨w.heap.size, 0, none⟩) ss.length ss.length) (anyAt ss k (.float .f64 f))) := by
        have e := uptoV_end (anyAt ss k (.float .f64 f))
        rw [HAL.out] at e
        rw [hin, e] at hrow
        refine ⟨_, _, by rw [HAL.out], by rw [HAL.out]; exact Nat.le_refl _, fun h0 => ⟨w.heap.size, owns_lt hrow rfl, rfl, fun j x hj => ?_⟩⟩
        have hjl := (List.getElem?_eq_some_iff.1 hj).1
        rw [HAL.out] at hjl
        rw [hrow.cellAt j (by omega)]; exact hj
      have HB := hide hbel
      have hsz := hbel.size
      have di : decide ((i : Int) < (ss.length : Int)) = false := by simp; omega
      clear hrow hbel hin
      go_wp2_with (go_at_call 14; refine (claim_refuse _ ss k _ _ HV.out hl hk0 hk1).mono ?_; rintro e w2 ⟨rfl, hb2⟩)
      go_ret2
      exact ⟨rfl, HB.out.trans (hb2.mono hsz)⟩

set_option maxRecDepth 100000 in
set_option maxHeartbeats 1600000 in
theorem ofString_any (s : ByteArray) (w : World) : Calls Try.prog 12 #[.string s] w fun e w' => ∃ g, e = .returned (.tuple #[.slice (some ⟨g, 0, none⟩) 1 1, .bool true]) ∧ w'.cell? ⟨g, 0, none⟩ = some (.string s) ∧ Below w.heap.size w w' := by
  go_enter Try.func12, Try.ntmps12
  go_wp2_with (go_at_call 14; refine (claim_str s _).mono ?_; rintro e w2 ⟨g, rfl, hc, hb2⟩)
  go_ret2
  exact ⟨g, rfl, hc, hb2⟩

set_option maxRecDepth 100000 in
set_option maxHeartbeats 1600000 in
theorem ofNull_any (w : World) : Calls Try.prog 13 #[] w fun e w' => e = .returned (.tuple #[.slice none 0 0, .bool true]) ∧ w' = w := by
  go_enter Try.func13, Try.ntmps13
  go_wp2_with (go_at_call 14; refine (claim_nil _).mono ?_; rintro e w2 ⟨rfl, hw⟩; obtain rfl := hw.symm)
  go_ret2
  exact ⟨rfl, rfl⟩

end Go.Proofs.Qxb6613909a
