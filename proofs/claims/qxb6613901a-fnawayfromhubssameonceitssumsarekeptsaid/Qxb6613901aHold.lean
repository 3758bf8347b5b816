import Derived.Test.Qxb6613901aRand
namespace Go.Proofs.Qxb6613901a
open Go Go.RowKit

/-- A holder of degrees (dv), with its kept sums (iv). -/
def HoldAt (w : World) (H : Nat) (dv iv : Value) : Prop := w.heap[H]? = some (.cells #[dv, .slice none 0 0, iv, .int .i64 0] 94 (0, 0))

set_option maxRecDepth 100000 in
theorem newHolder_any (a : Option Addr) (n c : Nat) (w : World) : Calls Try.prog 29 #[.slice a n c] w fun e w' => e = .returned (.pointer (some ⟨w.heap.size, 0, none⟩)) ∧ HoldAt w' w.heap.size (.slice a n c) (.slice none 0 0) ∧ w.heap.size < w'.heap.size ∧ Below w.heap.size w w' := by
  go_enter Try.func29, Try.ntmps29
  go_wp2
  go_ret
  exact ⟨rfl, heap_alloc_new w _, by simp, (Below.refl _ w).alloc (Nat.le_refl _) _⟩

theorem andNot_top (b : Nat) (h : b < 9223372036854775808) : bits .andNot .u64 (b : Int) 9223372036854775808 = b := by
  show IntKind.u64.wrap ((BitVec.ofInt 64 (b : Int) &&& ~~~(BitVec.ofInt 64 9223372036854775808)).toNat : Int) = b
  have e2 : (~~~(BitVec.ofInt 64 9223372036854775808)).toNat = 2 ^ 63 - 1 := by decide
  rw [BitVec.toNat_and, e2, Nat.and_two_pow_sub_one_eq_mod, BitVec.toNat_ofInt, IntKind.wrap_u64]
  omega

theorem max_no (b : Nat) (hb : b < 9218868437227405312) : (FloatKind.f64.format.order b 9218868437227405311 == some .gt) = false := by
  have h := Fl.order_fv (x := b) (y := 9218868437227405311) (by omega) (by decide)
  change (Ieee.double.order b 9218868437227405311 == some .gt) = _
  rw [h, Fl.fv_pos hb, Fl.fv_pos (by decide)]
  have hle : Fl.V b ≤ Fl.V 9218868437227405311 := Fl.V_le (by omega)
  generalize Fl.V 9218868437227405311 = m at *
  rw [Bool.eq_false_iff]
  intro hb
  simp only [beq_iff_eq, Option.some.injEq] at hb
  have := Int.compare_eq_gt.1 hb
  omega

theorem run_bits59 (b : Nat) (w : World) : (callFunc 59 #[.float .f64 b]).run Try.prog w = .ok (.value (.int .u64 b)) w := by
  rw [run_callFunc_extern Try.func59 (by kernel_rfl) (by kernel_rfl) (by kernel_rfl) (e := Extern.MathFloatBits.float64bits) (by kernel_rfl)]
  rfl
theorem run_bits58 (n : Int) (w : World) : (callFunc 58 #[.int .u64 n]).run Try.prog w = .ok (.value (.float .f64 n.toNat)) w := by
  rw [run_callFunc_extern Try.func58 (by kernel_rfl) (by kernel_rfl) (by kernel_rfl) (e := Extern.MathFloatBits.float64frombits) (by kernel_rfl)]
  rfl

set_option maxRecDepth 100000 in
theorem isInf_no (b : Nat) (hb : b < 9218868437227405312) (w : World) : Calls Try.prog 53 #[.float .f64 b, .int .i64 0] w fun e w' => e = .returned (.bool false) ∧ w' = w := by
  have q1 := run_bits59
  have q2 := run_bits58
  have q3 := andNot_top b (by omega)
  have q4 := max_no b hb
  clear hb
  go_enter Try.func53, Try.ntmps53
  go_wp2
  go_ret
  exact ⟨rfl, rfl⟩

end Go.Proofs.Qxb6613901a
