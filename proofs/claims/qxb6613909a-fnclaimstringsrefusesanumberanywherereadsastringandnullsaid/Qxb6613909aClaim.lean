import Derived.Test.Qxb6613909aMem
namespace Go.Proofs.Qxb6613909a
open Go Go.RowKit

theorem info9 : (Try.prog.info? 9).map (fun i => (i.zero, i.size, i.bytes)) = some (some (.string ByteArray.empty), 1, 16) := by kernel_rfl
theorem info20 : (Try.prog.info? 20).map (fun i => (i.zero, i.size, i.bytes)) = some (some .nilIface, 1, 16) := by kernel_rfl

theorem ta_list_str (v : Value) (w : World) : (Instr.typeAssert (.iface 35 v) 20 9 true).run Try.prog w = .ok (.tuple #[.string ByteArray.empty, .bool false]) w := by kernel_rfl
theorem ta_str_str (v : Value) (w : World) : (Instr.typeAssert (.iface 9 v) 20 9 true).run Try.prog w = .ok (.tuple #[v, .bool true]) w := by kernel_rfl
theorem ta_list_list (v : Value) (w : World) : (Instr.typeAssert (.iface 35 v) 20 35 true).run Try.prog w = .ok (.tuple #[v, .bool true]) w := by kernel_rfl
theorem ta_num_str (v : Value) (w : World) : (Instr.typeAssert (.iface 26 v) 20 9 true).run Try.prog w = .ok (.tuple #[.string ByteArray.empty, .bool false]) w := by kernel_rfl

/-- The list so far: the first k strings; the rest empty. -/
def upto (ss : List ByteArray) (k : Nat) : List ByteArray := ss.take k ++ List.replicate (ss.length - k) ByteArray.empty
theorem upto_zero (ss : List ByteArray) : upto ss 0 = List.replicate ss.length ByteArray.empty := by simp [upto]
theorem upto_end (ss : List ByteArray) : upto ss ss.length = ss := by simp [upto]
theorem upto_length (ss : List ByteArray) (k : Nat) (hk : k ≤ ss.length) : (upto ss k).length = ss.length := by simp [upto]; omega
theorem upto_succ (ss : List ByteArray) (k : Nat) (x : ByteArray) (h : ss[k]? = some x) : upto ss (k + 1) = (upto ss k).set k x := by
  obtain ⟨hk, rfl⟩ := List.getElem?_eq_some_iff.1 h
  have hl : (ss.take k).length = k := by simp; omega
  rw [upto, upto, List.take_succ_eq_append_getElem hk, List.set_append_right _ _ (by omega), hl, Nat.sub_self, show ss.length - k = (ss.length - (k + 1)) + 1 by omega, List.replicate_succ, List.set_cons_zero, List.append_assoc]
  rfl
theorem strs_set (l : List ByteArray) (k : Nat) (x : ByteArray) : (strs l).set k (.string x) = strs (l.set k x) := by simp [strs, List.map_set]

theorem row_has {w : World} {g n cap k : Nat} {l : List ByteArray} (h : w.ownsRow 0 9 1 (.slice (some ⟨g, 0, none⟩) n cap) n (strs l)) (hk : k < n) : ∃ z, w.cell? ⟨g, k, none⟩ = some (.string z) := by
  have hl := h.1
  rw [strs_length] at hl
  have hk' : k < l.length := by omega
  exact ⟨l[k], by rw [h.cellAt k (by omega)]; simp [strs, hk']⟩

/-- A slice of any whose elements are the strings ss. -/
def AnysAt (w : World) (v : Value) (vs : List Value) : Prop :=
  ∃ ao cap, v = .slice ao vs.length cap ∧ vs.length ≤ cap ∧ (0 < vs.length → ∃ b, b < w.heap.size ∧ ao = some ⟨b, 0, none⟩ ∧ ∀ k x, vs[k]? = some x → w.cell? ⟨b, k, none⟩ = some x)

/-- The strings ss as a list of any, a number in place k. -/
def anyAt (ss : List ByteArray) (k : Int) (f : Value) : List Value := ss.mapIdx fun i s => if (i : Int) = k then .iface 26 f else .iface 9 (.string s)
theorem anyAt_length (ss : List ByteArray) (k : Int) (f : Value) : (anyAt ss k f).length = ss.length := by simp [anyAt]
theorem anyAt_str {ss : List ByteArray} {k : Int} {f : Value} {i : Nat} {s : ByteArray} (h : ss[i]? = some s) (hk : (i : Int) ≠ k) : (anyAt ss k f)[i]? = some (.iface 9 (.string s)) := by simp [anyAt, h, hk]
theorem anyAt_num {ss : List ByteArray} {k : Int} {f : Value} {i : Nat} (h : i < ss.length) (hk : (i : Int) = k) : (anyAt ss k f)[i]? = some (.iface 26 f) := by simp [anyAt, h, hk]

set_option maxRecDepth 100000 in
set_option maxHeartbeats 1600000 in
theorem claim_list (v : Value) (ss : List ByteArray) (k : Int) (f : Value) (w : World) (hv : AnysAt w v (anyAt ss k f)) (hl : ss.length ≤ 65536) (hk : k < 0) :
    Calls Try.prog 14 #[.iface 35 v] w fun e w' => ∃ g, e = .returned (.tuple #[.slice (some ⟨g, 0, none⟩) ss.length ss.length, .bool true]) ∧ w'.ownsRow 0 9 1 (.slice (some ⟨g, 0, none⟩) ss.length ss.length) ss.length (strs ss) ∧ Below w.heap.size w w' := by
  obtain ⟨i9, hi9, hz90, hz91, hz92⟩ := info_parts info9
  obtain ⟨ao, cap, rfl, hcap, fv⟩ := hv
  have hal := anyAt_length ss k f
  rw [hal] at hcap fv ⊢
  clear hal
  have t1 := ta_list_str
  have t2 := ta_str_str
  have t3 := ta_list_list
  have t4 := ta_num_str
  go_enter Try.func14, Try.ntmps14
  go_wp2_with (at_make; refine wpList_make_full _ rfl _ _ 22 rfl 0 9 i9 (.string ByteArray.empty) 1 Try.underlying22 hi9 hz90 hz91 _ _ _ _ ss.length rfl rfl rfl rfl (by rw [hz92]; omega) (by unfold maxLen; omega) (by omega) ?_)
  intro w1 own1 hgrow1
  have own2 : w1.ownsRow 0 9 1 (.slice (some ⟨w.heap.size, 0, none⟩) ss.length ss.length) ss.length (strs (upto ss 0)) := by
    have e : (madeCells #[Value.string ByteArray.empty] ss.length).toList = strs (upto ss 0) := by
      rw [upto_zero, toList_madeCells_one]; simp [strs]
    rw [← e]; simpa [Value.cells] using own1
  have bel1 : Below w.heap.size w w1 := ⟨hgrow1.os, hgrow1.tape, hgrow1.output, hgrow1.size, fun k hk => hgrow1.block k hk (by simp)⟩
  clear own1 hgrow1
  go_wp2_with fail
  go_loopw [27] (fun iv wr => ∃ i : Nat, i ≤ ss.length ∧ iv = .int .i64 i ∧ wr.ownsRow 0 9 1 (.slice (some ⟨w.heap.size, 0, none⟩) ss.length ss.length) ss.length (strs (upto ss i)) ∧ Below w.heap.size w wr) (fun iv _ => ss.length - (intOf iv).toNat)
  case atStart => exact ⟨0, Nat.zero_le _, rfl, own2, bel1⟩
  case round =>
    obtain ⟨i, hi, rfl, hrow, hbel⟩ := hrel
    clear own2 bel1
    by_cases hlt : i < ss.length
    · obtain ⟨b, hbl, rfl, hcell⟩ := fv (by omega)
      obtain ⟨s, hs⟩ : ∃ s, ss[i]? = some s := ⟨_, List.getElem?_eq_getElem hlt⟩
      have c0 := (hbel.cell (p := ⟨b, i, none⟩) hbl).trans (hcell i _ (anyAt_str (k := k) (f := f) hs (fun h => by omega)))
      have m0 : (0 : Int) ≤ (i : Int) := by omega
      have m1 : (i : Int) < (ss.length : Int) := by omega
      obtain ⟨z, ca⟩ := row_has hrow hlt
      have fa : wr.frozen? ⟨w.heap.size, i, none⟩ = false := hrow.frozenAt i
      have HR : Hid ((wr.setCell ⟨w.heap.size, i, none⟩ (.string s)).ownsRow 0 9 1 (.slice (some ⟨w.heap.size, 0, none⟩) ss.length ss.length) ss.length (strs (upto ss (i + 1)))) := by
        have := (hrow.stored i (.string s)).1
        rwa [strs_set, ← upto_succ ss i s hs] at this
      have HB := hide hbel
      clear hcell fv hrow hbel hs
      go_wp2_with fail
      go_roundw
      case rel => exact ⟨i + 1, by omega, by go_num, HR.out, HB.out.setCell (Nat.le_refl _) _⟩
      case measure => simp [intOf]; omega
    · have hin : i = ss.length := by omega
      have HR : Hid (wr.ownsRow 0 9 1 (.slice (some ⟨w.heap.size, 0, none⟩) ss.length ss.length) ss.length (strs ss)) := by
        rw [hin, upto_end] at hrow; exact hrow
      have HB := hide hbel
      have di : decide ((i : Int) < (ss.length : Int)) = false := by simp; omega
      clear hrow hbel hin
      go_wp2_with fail
      go_ret2
      exact ⟨_, rfl, HR.out, HB.out⟩

set_option maxRecDepth 100000 in
set_option maxHeartbeats 1600000 in
theorem claim_refuse (v : Value) (ss : List ByteArray) (k : Int) (f : Value) (w : World) (hv : AnysAt w v (anyAt ss k f)) (hl : ss.length ≤ 65536) (hk0 : 0 ≤ k) (hk1 : k < ss.length) :
    Calls Try.prog 14 #[.iface 35 v] w fun e w' => e = .returned (.tuple #[.slice none 0 0, .bool false]) ∧ Below w.heap.size w w' := by
  obtain ⟨i9, hi9, hz90, hz91, hz92⟩ := info_parts info9
  obtain ⟨ao, cap, rfl, hcap, fv⟩ := hv
  have hal := anyAt_length ss k f
  rw [hal] at hcap fv ⊢
  clear hal
  have t1 := ta_list_str
  have t2 := ta_str_str
  have t3 := ta_list_list
  have t4 := ta_num_str
  go_enter Try.func14, Try.ntmps14
  go_wp2_with (at_make; refine wpList_make_full _ rfl _ _ 22 rfl 0 9 i9 (.string ByteArray.empty) 1 Try.underlying22 hi9 hz90 hz91 _ _ _ _ ss.length rfl rfl rfl rfl (by rw [hz92]; omega) (by unfold maxLen; omega) (by omega) ?_)
  intro w1 own1 hgrow1
  have own2 : w1.ownsRow 0 9 1 (.slice (some ⟨w.heap.size, 0, none⟩) ss.length ss.length) ss.length (strs (upto ss 0)) := by
    have e : (madeCells #[Value.string ByteArray.empty] ss.length).toList = strs (upto ss 0) := by
      rw [upto_zero, toList_madeCells_one]; simp [strs]
    rw [← e]; simpa [Value.cells] using own1
  have bel1 : Below w.heap.size w w1 := ⟨hgrow1.os, hgrow1.tape, hgrow1.output, hgrow1.size, fun k hk => hgrow1.block k hk (by simp)⟩
  clear own1 hgrow1
  go_wp2_with fail
  go_loopw [27] (fun iv wr => ∃ i : Nat, i ≤ ss.length ∧ (i : Int) ≤ k ∧ iv = .int .i64 i ∧ wr.ownsRow 0 9 1 (.slice (some ⟨w.heap.size, 0, none⟩) ss.length ss.length) ss.length (strs (upto ss i)) ∧ Below w.heap.size w wr) (fun iv _ => ss.length - (intOf iv).toNat)
  case atStart => exact ⟨0, Nat.zero_le _, by omega, rfl, own2, bel1⟩
  case round =>
    obtain ⟨i, hi, hik, rfl, hrow, hbel⟩ := hrel
    clear own2 bel1
    have hlt : i < ss.length := by omega
    by_cases hne : (i : Int) = k
    · obtain ⟨b, hbl, rfl, hcell⟩ := fv (by omega)
      have c0 := (hbel.cell (p := ⟨b, i, none⟩) hbl).trans (hcell i _ (anyAt_num (f := f) hlt hne))
      have m0 : (0 : Int) ≤ (i : Int) := by omega
      have m1 : (i : Int) < (ss.length : Int) := by omega
      have HB := hide hbel
      clear hcell fv hrow hbel hne hik
      go_wp2_with fail
      go_ret2
      exact ⟨rfl, HB.out⟩
    · obtain ⟨b, hbl, rfl, hcell⟩ := fv (by omega)
      obtain ⟨s, hs⟩ : ∃ s, ss[i]? = some s := ⟨_, List.getElem?_eq_getElem hlt⟩
      have c0 := (hbel.cell (p := ⟨b, i, none⟩) hbl).trans (hcell i _ (anyAt_str (k := k) (f := f) hs hne))
      have m0 : (0 : Int) ≤ (i : Int) := by omega
      have m1 : (i : Int) < (ss.length : Int) := by omega
      obtain ⟨z, ca⟩ := row_has hrow hlt
      have fa : wr.frozen? ⟨w.heap.size, i, none⟩ = false := hrow.frozenAt i
      have HR : Hid ((wr.setCell ⟨w.heap.size, i, none⟩ (.string s)).ownsRow 0 9 1 (.slice (some ⟨w.heap.size, 0, none⟩) ss.length ss.length) ss.length (strs (upto ss (i + 1)))) := by
        have := (hrow.stored i (.string s)).1
        rwa [strs_set, ← upto_succ ss i s hs] at this
      have HB := hide hbel
      clear hcell fv hrow hbel hs
      go_wp2_with fail
      go_roundw
      case rel => exact ⟨i + 1, by omega, by omega, by go_num, HR.out, HB.out.setCell (Nat.le_refl _) _⟩
      case measure => simp [intOf]; omega

set_option maxRecDepth 100000 in
set_option maxHeartbeats 1600000 in
theorem claim_str (s : ByteArray) (w : World) : Calls Try.prog 14 #[.iface 9 (.string s)] w fun e w' => ∃ g, e = .returned (.tuple #[.slice (some ⟨g, 0, none⟩) 1 1, .bool true]) ∧ w'.cell? ⟨g, 0, none⟩ = some (.string s) ∧ Below w.heap.size w w' := by
  have t2 := ta_str_str
  go_enter Try.func14, Try.ntmps14
  go_wp2_with fail
  go_ret2
  exact ⟨_, rfl, by simp, (Below.refl _ _).alloc (Nat.le_refl _) _⟩

set_option maxRecDepth 100000 in
set_option maxHeartbeats 1600000 in
theorem claim_nil (w : World) : Calls Try.prog 14 #[.nilIface] w fun e w' => e = .returned (.tuple #[.slice none 0 0, .bool true]) ∧ w' = w := by
  go_enter Try.func14, Try.ntmps14
  go_wp2_with fail
  go_ret2
  exact ⟨rfl, rfl⟩

end Go.Proofs.Qxb6613909a
