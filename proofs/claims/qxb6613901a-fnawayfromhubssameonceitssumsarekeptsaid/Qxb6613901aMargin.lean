import Derived.Test.Qxb6613901aSearch
namespace Go.Proofs.Qxb6613901a
open Go Go.RowKit
set_option exponentiation.threshold 3000

theorem V_four : Fl.V 4616189618054758400 = 4 * 2 ^ 1074 := by
  rw [Fl.V_normal _ (by decide), show (4503599627370496 + 4616189618054758400 % 4503599627370496 : Nat) = 2 ^ 52 by decide, show (4616189618054758400 / 4503599627370496 - 1 : Nat) = 1024 by decide, ← Nat.pow_add]
theorem V_eps : Fl.V 4368491638549381120 = 2 ^ 1021 := by
  rw [Fl.V_normal _ (by decide), show (4503599627370496 + 4368491638549381120 % 4503599627370496 : Nat) = 2 ^ 52 by decide, show (4368491638549381120 / 4503599627370496 - 1 : Nat) = 969 by decide, ← Nat.pow_add]

theorem pow_1074 : (2 : Nat) ^ 1074 = 2 ^ 1021 * 9007199254740992 := by rw [← Fl.p53, ← Nat.pow_add]

/-- The margin, as the three products give it. -/
theorem margin_run (n T q : Nat) (hn : n ≤ 131072) (hT : T < 9218868437227405312) (hq : Fl.V T = 9007199254740992 * q) (hTs : Fl.V T ≤ 2 ^ 1092) :
    ∃ a1 a2 M : Nat, (∀ w, (binOp .mul 74 (.float .f64 4616189618054758400) (.float .f64 (floatOfInt .f64 ((n : Int) + 1)))).run Try.prog w = .ok (.float .f64 a1) w) ∧
      (∀ w, (binOp .mul 74 (.float .f64 a1) (.float .f64 4368491638549381120)).run Try.prog w = .ok (.float .f64 a2) w) ∧
      (∀ w, (binOp .mul 74 (.float .f64 a2) (.float .f64 T)).run Try.prog w = .ok (.float .f64 M) w) ∧
      M < 9218868437227405312 ∧ 2 * ((n + 1) * q) ≤ Fl.V M := by
  have e0 : ((n : Int) + 1).natAbs = n + 1 := by omega
  have hv0 : Fl.V (Fl.R ((n + 1) * 2 ^ 1074)) = (n + 1) * 2 ^ 1074 := Fl.V_exact (n + 1) 1074 (by omega)
  have hv1 : Fl.V (Fl.R ((4 * (n + 1)) * 2 ^ 1074)) = (4 * (n + 1)) * 2 ^ 1074 := Fl.V_exact (4 * (n + 1)) 1074 (by omega)
  have hv2 : Fl.V (Fl.R ((4 * (n + 1)) * 2 ^ 1021)) = (4 * (n + 1)) * 2 ^ 1021 := Fl.V_exact (4 * (n + 1)) 1021 (by omega)
  have f0 := Fl.R_small (Fl.scaled_small (n + 1) 1074 (by omega) (by decide))
  have f1 := Fl.R_small (Fl.scaled_small (4 * (n + 1)) 1074 (by omega) (by decide))
  have f2 := Fl.R_small (Fl.scaled_small (4 * (n + 1)) 1021 (by omega) (by decide))
  have hbig : 4 * (n + 1) * q < 2 ^ 1200 := by
    have hq1 : q ≤ 2 ^ 1092 := by omega
    have e20 : (2 : Nat) ^ 20 = 1048576 := by decide
    have : 4 * (n + 1) * q ≤ 2 ^ 20 * 2 ^ 1092 := Nat.mul_le_mul (by omega) hq1
    rw [← Nat.pow_add] at this
    exact Nat.lt_of_le_of_lt this (Fl.pow_lt (by decide))
  refine ⟨Fl.R ((4 * (n + 1)) * 2 ^ 1074), Fl.R ((4 * (n + 1)) * 2 ^ 1021), Fl.R (4 * (n + 1) * q), ?_, ?_, ?_, Fl.R_small hbig, ?_⟩
  · intro w
    rw [ofInt_eq _ (by omega) (by omega), e0]
    refine run_float_arith w .mul 74 .f64 _ _ _ (Fl.mul_pos (by decide) f0 ?_ (Fl.scaled_small _ _ (by omega) (by decide)))
    rw [V_four, hv0, Nat.mul_assoc 4, Nat.mul_assoc 4]
    generalize 2 ^ 1074 = z
    rw [Nat.mul_assoc 4 z, Nat.mul_left_comm z, Nat.mul_assoc (n + 1)]
  · intro w
    refine run_float_arith w .mul 74 .f64 _ _ _ (Fl.mul_pos f1 (by decide) ?_ (Fl.scaled_small _ _ (by omega) (by decide)))
    rw [V_eps, hv1, Nat.mul_right_comm]
  · intro w
    refine run_float_arith w .mul 74 .f64 _ _ _ (Fl.mul_pos f2 hT ?_ hbig)
    rw [hv2, hq, pow_1074]
    generalize 2 ^ 1021 = z
    generalize 4 * (n + 1) = k
    rw [Nat.mul_assoc, Nat.mul_assoc, Nat.mul_left_comm q, Nat.mul_comm q]
  · have := Fl.R_err (4 * (n + 1) * q)
    rw [show 4 * (n + 1) * q = 4 * ((n + 1) * q) from Nat.mul_assoc _ _ _] at *
    omega

theorem subw_gt (x s M : Nat) (hx : Fl.V x < 2 ^ 1200) (hs : Fl.V s < 2 ^ 1200) (hM : M < 9218868437227405312) (h : (FloatKind.f64.format.order (subw x s) M == some .gt) = true) : Fl.V s + Fl.V M < Fl.V x := by
  have ho := Fl.order_fv (x := subw x s) (y := M) (subw_fin x s hx hs) (by omega)
  change (Ieee.double.order (subw x s) M == some .gt) = true at h
  rw [ho, Fl.fv_pos hM] at h
  simp only [beq_iff_eq, Option.some.injEq] at h
  have h := Int.compare_eq_gt.1 h
  unfold subw at h
  split at h
  · rw [Fl.fv_pos (Fl.R_small (Nat.lt_of_le_of_lt (Nat.sub_le _ _) hx))] at h
    refine Nat.lt_of_not_le fun hle => ?_
    have := Fl.R_le (c := M) (n := Fl.V x - Fl.V s) (by omega)
    omega
  · rw [Fl.fv_neg (Fl.R_small (Nat.lt_of_le_of_lt (Nat.sub_le _ _) hs))] at h
    omega

theorem subw_lt (x s M : Nat) (hx : Fl.V x < 2 ^ 1200) (hs : Fl.V s < 2 ^ 1200) (hM : M < 9218868437227405312) (h : (FloatKind.f64.format.order (subw x s) (9223372036854775808 + M) == some .lt) = true) : Fl.V x + Fl.V M < Fl.V s := by
  have ho := Fl.order_fv (x := subw x s) (y := 9223372036854775808 + M) (subw_fin x s hx hs) (by omega)
  change (Ieee.double.order (subw x s) (9223372036854775808 + M) == some .lt) = true at h
  rw [ho, Fl.fv_neg hM] at h
  simp only [beq_iff_eq, Option.some.injEq] at h
  have h := Int.compare_eq_lt.1 h
  unfold subw at h
  split at h
  · rw [Fl.fv_pos (Fl.R_small (Nat.lt_of_le_of_lt (Nat.sub_le _ _) hx))] at h
    omega
  · rw [Fl.fv_neg (Fl.R_small (Nat.lt_of_le_of_lt (Nat.sub_le _ _) hs))] at h
    refine Nat.lt_of_not_le fun hle => ?_
    have := Fl.R_le (c := M) (n := Fl.V s - Fl.V x) (by omega)
    omega

end Go.Proofs.Qxb6613901a
