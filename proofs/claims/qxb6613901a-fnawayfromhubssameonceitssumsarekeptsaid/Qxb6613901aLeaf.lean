import Derived.Test.Qxb6613901aProg
import Derived.Test.Qxb6613901aMem
import Derived.WalkLawsBesides
import Derived.BigQuiet
import Derived.Deep.QuietTactic
namespace Go.Proofs.Qxb6613901a
open Go Go.RowKit

def has (zs : List Int) (q : Int) : Bool := zs.contains q
def ans (bs : List Bool) (i : Int) : Bool := decide (0 ≤ i) && bs.getD i.toNat false

theorem has_take_zero (zs : List Int) (q : Int) : has (zs.take 0) q = false := by simp [has]
theorem has_take_succ (zs : List Int) (q : Int) (k : Nat) (hk : k < zs.length) : has (zs.take (k + 1)) q = (has (zs.take k) q || (zs[k]?.getD 0 == q)) := by
  unfold has
  rw [List.take_succ_eq_append_getElem hk, Bool.eq_iff_iff]
  simp only [List.contains_iff_mem, List.mem_append, List.mem_singleton, Bool.or_eq_true, beq_iff_eq, List.getElem?_eq_getElem hk, Option.getD_some]
  rw [eq_comm (a := q)]
theorem has_hit (zs : List Int) (q : Int) (k : Nat) (hk : k < zs.length) (h : (zs[k]?.getD 0 == q) = true) : has zs q = true := by
  unfold has
  simp [hk] at h
  simp only [List.contains_iff_mem]
  exact h ▸ List.getElem_mem hk

theorem ret_bool {a b : Bool} (h : a = b) : Ending.returned (.bool a) = .returned (.bool b) := by rw [h]

set_option maxHeartbeats 400000 in
theorem contains_any (v : Value) (zs : List Int) (q : Int) (w : World) (hv : IntsAt w v zs) (hl : zs.length ≤ 1099511627776) :
    Calls Try.prog 14 #[v, .int .i64 q] w fun e w' => e = .returned (.bool (has zs q)) ∧ w' = w := by
  obtain ⟨ao, cap, rfl, hcap, hc⟩ := hv
  go_enter Try.func14, Try.ntmps14
  go_wp2
  go_loop [5] (fun i => ∃ k : Nat, k ≤ zs.length ∧ i = .int .i64 k ∧ has (zs.take k) q = false) (fun i => zs.length - (intOf i).toNat)
  case atStart => exact ⟨0, Nat.zero_le _, rfl, has_take_zero zs q⟩
  case round =>
    obtain ⟨k, hk, rfl, hno⟩ := hrel
    by_cases hlt : k < zs.length
    · obtain ⟨b, off, rfl, hcell⟩ := hc (by omega)
      have hcx := hcell k hlt
      have HN : Hid (has (zs.take k) q = false) := hno
      clear hno hcell hc
      simp only [List.getD_eq_getElem?_getD] at hcx
      generalize hz : zs[k]?.getD 0 = z at hcx
      have HZ : Hid (zs[k]?.getD 0 = z) := hz
      clear hz
      go_wp2
      · go_ret
        exact ⟨ret_bool (has_hit zs q k hlt (by rw [HZ.out]; assumption)).symm, rfl⟩
      · have hzq : (z == q) = false := by assumption
        go_round
        case rel => exact ⟨k + 1, by omega, by go_num, by rw [has_take_succ zs q k hlt, HN.out, HZ.out, hzq]; rfl⟩
        case measure => simp [intOf]; omega
    · go_wp2
      go_ret
      rw [List.take_of_length_le (by omega)] at hno
      exact ⟨ret_bool hno.symm, rfl⟩

set_option maxHeartbeats 400000 in
theorem answer_any (v : Value) (bs : List Bool) (i : Int) (w : World) (hv : BoolsAt w v bs) (hl : bs.length ≤ 1099511627776) :
    Calls Try.prog 15 #[v, .int .i64 i] w fun e w' => e = .returned (.bool (ans bs i)) ∧ w' = w := by
  obtain ⟨ao, cap, rfl, hcap, hc⟩ := hv
  by_cases h0 : 0 ≤ i
  · obtain ⟨k, rfl⟩ := Int.eq_ofNat_of_zero_le h0
    by_cases h1 : k < bs.length
    · obtain ⟨b, off, rfl, hcell⟩ := hc (by omega)
      have hcx := hcell k h1
      simp only [List.getD_eq_getElem?_getD] at hcx
      clear hcell hc
      have h1' : (k : Int) < (bs.length : Int) := by omega
      go_enter Try.func15, Try.ntmps15
      go_wp2
      go_ret
      exact ⟨ret_bool (by simp [ans, h1]), rfl⟩
    · have hd : decide ((k : Int) < (bs.length : Int)) = false := by simp; omega
      go_enter Try.func15, Try.ntmps15
      go_wp2
      go_ret
      refine ⟨ret_bool ?_, rfl⟩
      simp [ans, h1]
  · have hd : decide (0 ≤ i) = false := by simpa using h0
    go_enter Try.func15, Try.ntmps15
    go_wp2
    go_ret
    exact ⟨ret_bool (by simp [ans, hd]), rfl⟩

set_option maxHeartbeats 400000 in
theorem linked_any (O : Nat) (p q : Int) (lv : Value) (zs : List Int) (w : World) (hc : w.cell? ⟨O, 1, none⟩ = some lv) (hv : IntsAt w lv zs) (hl : zs.length ≤ 1099511627776) :
    Calls Try.prog 78 #[.pointer (some ⟨O, 0, none⟩), .int .i64 p, .int .i64 q] w fun e w' => e = .returned (.bool (has zs q)) ∧ w' = w := by
  have hv' := hv
  obtain ⟨ao, cap, rfl, hcap, _⟩ := hv'
  go_enter Try.func78, Try.ntmps78
  go_wp2_with (go_at_call 14; refine (contains_any _ zs q _ hv hl).mono ?_; rintro e w' ⟨rfl, rfl⟩)
  go_ret
  exact ⟨rfl, rfl⟩

set_option maxHeartbeats 400000 in
theorem links_any (O : Nat) (p n : Int) (w : World) (hc : w.cell? ⟨O, 0, none⟩ = some (.int .i64 n)) :
    Calls Try.prog 79 #[.pointer (some ⟨O, 0, none⟩), .int .i64 p] w fun e w' => e = .returned (.int .i64 n) ∧ w' = w := by
  go_enter Try.func79, Try.ntmps79
  go_wp2
  go_ret
  exact ⟨rfl, rfl⟩

end Go.Proofs.Qxb6613901a
