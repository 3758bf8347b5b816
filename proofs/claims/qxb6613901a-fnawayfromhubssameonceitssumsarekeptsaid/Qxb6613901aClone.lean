import Derived.Test.Qxb6613901aHold
import Derived.Test.Qxb6613901aLink
import Derived.Test.Qxb6613901aLeads
namespace Go.Proofs.Qxb6613901a
open Go Go.RowKit

def uptoI (vs : List Value) (k : Nat) : List Value := vs.take k ++ List.replicate (vs.length - k) (.int .i64 0)
theorem uptoI_zero (vs : List Value) : uptoI vs 0 = List.replicate vs.length (.int .i64 0) := by simp [uptoI]
theorem uptoI_end (vs : List Value) : uptoI vs vs.length = vs := by simp [uptoI]
theorem uptoI_succ (vs : List Value) (k : Nat) (x : Value) (h : vs[k]? = some x) : uptoI vs (k + 1) = (uptoI vs k).set k x := by
  obtain ⟨hk, rfl⟩ := List.getElem?_eq_some_iff.1 h
  have hl : (vs.take k).length = k := by simp; omega
  rw [uptoI, uptoI, List.take_succ_eq_append_getElem hk, List.set_append_right _ _ (by omega), hl, Nat.sub_self, show vs.length - k = (vs.length - (k + 1)) + 1 by omega, List.replicate_succ, List.set_cons_zero, List.append_assoc]
  rfl
theorem uptoI_at (vs : List Value) (k : Nat) (hk : k < vs.length) : (uptoI vs k)[k]? = some (.int .i64 0) := by
  have hl : (vs.take k).length = k := by simp; omega
  rw [uptoI, List.getElem?_append_right (by omega), hl, Nat.sub_self, List.getElem?_replicate, if_pos (by omega)]

theorem ints_length' (l : List Int) : (ints l).length = l.length := by simp [ints]
theorem ints_at' (l : List Int) (k : Nat) (h : k < l.length) : (ints l)[k]? = some (.int .i64 (l.getD k 0)) := by simp [ints, List.getD, h]

set_option maxRecDepth 100000 in
set_option maxHeartbeats 1600000 in
theorem clone_any (xv : Value) (ds : List Int) (w : World) (hx : IntsAt w xv ds) (hl : ds.length ≤ 131072) (h0 : 0 < ds.length) :
    Calls Try.prog 30 #[xv] w fun e w' => e = .returned (.slice (some ⟨w.heap.size, 0, none⟩) ds.length ds.length) ∧ IntsAt w' (.slice (some ⟨w.heap.size, 0, none⟩) ds.length ds.length) ds ∧ w.heap.size < w'.heap.size ∧ Below w.heap.size w w' := by
  obtain ⟨i3, hi3, hz0, hz1, hz2⟩ := info_parts info3
  have hx' := hx
  obtain ⟨xa, xc, rfl, hxc, fx⟩ := hx'
  obtain ⟨b, off, rfl, -⟩ := fx h0
  have qn := fun w => Lib.run_eql_slice_nil (P := Try.prog) w 30 3 (some ⟨b, off, none⟩) ds.length xc 0 0 Try.underlying30
  go_enter Try.func30, Try.ntmps30
  go_wp2_with (at_make; refine wpList_make_full _ rfl _ _ 30 rfl 0 3 i3 (.int .i64 0) 1 Try.underlying30 hi3 hz0 hz1 _ _ _ _ ds.length rfl rfl rfl rfl (by rw [hz2]; omega) (by unfold maxLen; omega) (by omega) ?_)
  intro w1 own1 hgrow1
  have own2 : w1.ownsRow 0 3 1 (.slice (some ⟨w.heap.size, 0, none⟩) ds.length ds.length) ds.length (uptoI (ints ds) 0) := by
    have e : (madeCells #[Value.int .i64 0] ds.length).toList = uptoI (ints ds) 0 := by
      rw [uptoI_zero, ints_length', toList_madeCells_one]
    rw [← e]; simpa [Value.cells] using own1
  have bel1 : Below w.heap.size w w1 := ⟨hgrow1.os, hgrow1.tape, hgrow1.output, hgrow1.size, fun k hk => hgrow1.block k hk (by simp)⟩
  clear own1 hgrow1
  go_wp2_with fail
  go_loopw [4] (fun iv wr => ∃ i : Nat, i ≤ ds.length ∧ iv = .int .i64 i ∧ wr.ownsRow 0 3 1 (.slice (some ⟨w.heap.size, 0, none⟩) ds.length ds.length) ds.length (uptoI (ints ds) i) ∧ Below w.heap.size w wr) (fun iv _ => ds.length - (intOf iv).toNat)
  case atStart => exact ⟨0, Nat.zero_le _, rfl, own2, bel1⟩
  case round =>
    obtain ⟨i, hi, rfl, hrow, hbel⟩ := hrel
    clear own2 bel1
    by_cases hlt : i < ds.length
    · obtain ⟨_, _, e, -, fx2⟩ := hx.below hbel
      simp only [Value.slice.injEq, true_and] at e
      obtain ⟨rfl, rfl⟩ := e
      obtain ⟨b', off', e', hcell⟩ := fx2 h0
      simp only [Option.some.injEq, Addr.mk.injEq, and_true] at e'
      obtain ⟨rfl, rfl⟩ := e'
      have c0 := hcell i hlt
      have hat := ints_at' ds i hlt
      generalize ds.getD i 0 = d at *
      have m0 : (0 : Int) ≤ (i : Int) := by omega
      have m1 : (i : Int) < (ds.length : Int) := by omega
      have ca : wr.cell? ⟨w.heap.size, i, none⟩ = some (.int .i64 0) := by
        rw [hrow.cellAt i (by omega)]; exact uptoI_at _ i (by rw [ints_length']; exact hlt)
      have fa : wr.frozen? ⟨w.heap.size, i, none⟩ = false := hrow.frozenAt i
      have HR : Hid ((wr.setCell ⟨w.heap.size, i, none⟩ (.int .i64 d)).ownsRow 0 3 1 (.slice (some ⟨w.heap.size, 0, none⟩) ds.length ds.length) ds.length (uptoI (ints ds) (i + 1))) := by
        have := (hrow.stored i (.int .i64 d)).1
        rwa [← uptoI_succ _ i _ hat] at this
      have HB := hide hbel
      clear hcell fx2 fx hrow hbel hat
      go_wp2_with fail
      go_roundw
      case rel => exact ⟨i + 1, by omega, by go_num, HR.out, HB.out.setCell (Nat.le_refl _) _⟩
      case measure => simp [intOf]; omega
    · have hin : i = ds.length := by omega
      have HV : Hid (IntsAt wr (.slice (some ⟨w.heap.size, 0, none⟩) ds.length ds.length) ds ∧ w.heap.size < wr.heap.size) := by
        have e := uptoI_end (ints ds)
        rw [ints_length'] at e
        rw [hin, e] at hrow
        exact ⟨owns_ints hrow, (hrow.lt _ rfl).2⟩
      have HB := hide hbel
      have di : decide ((i : Int) < (ds.length : Int)) = false := by simp; omega
      clear hrow hbel hin
      go_wp2_with fail
      go_ret
      exact ⟨rfl, HV.out.1, HV.out.2, HB.out⟩

end Go.Proofs.Qxb6613901a
