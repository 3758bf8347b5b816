import Derived.Test.Qxb6613901aFloatOps
namespace Go.Proofs.Qxb6613901a.Fl
open Ieee
set_option exponentiation.threshold 3000

theorem V_exact (c e : Nat) (hc : c < 9007199254740992) : V (R (c * 2 ^ e)) = c * 2 ^ e := by
  by_cases h0 : c = 0
  · subst h0; rw [Nat.zero_mul, R_zero]; rfl
  have hk : K (c * 2 ^ e) ≤ e := by
    unfold K
    rw [log2_scale c e h0]
    have := (Nat.log2_lt h0 (k := 53)).2 (by rw [p53]; omega)
    omega
  rw [VR]
  generalize K (c * 2 ^ e) = k at *
  obtain ⟨d, rfl⟩ : ∃ d, e = k + d := ⟨e - k, by omega⟩
  rw [Nat.pow_add, Nat.mul_comm (2 ^ k), ← Nat.mul_assoc, rne_mul _ _ (Nat.two_pow_pos _)]

/-- 'nearest' of a whole number. -/
theorem ofNat_eq (n : Nat) (hn : n < 2 ^ 100) : double.nearest false n 0 = R (n * 2 ^ 1074) := by
  have hs : n * 2 ^ 1074 < 2 ^ 1200 := by
    have := Nat.mul_lt_mul_of_pos_right hn (Nat.two_pow_pos 1074)
    rw [← Nat.pow_add] at this
    exact Nat.lt_trans this (Nat.pow_lt_pow_right (by omega) (by omega))
  rw [nearest_eq false n 1074 0 (n * 2 ^ 1074) _ (by clear hs hn; omega) (by rw [Nat.pow_zero, Nat.mul_one]), word_false, Nat.min_eq_left (Nat.le_of_lt (R_small hs))]

theorem read_normal (w : Nat) (h1 : 4503599627370496 ≤ w) (h2 : w < 9218868437227405312) :
    double.read w = .number false (4503599627370496 + w % 4503599627370496) (-1074 + ((w / 4503599627370496 - 1 : Nat) : Int)) := by
  unfold Format.read
  simp only [signD, binadeD, infD, leastD]
  rw [show w % 9223372036854775808 = w by omega, show w / 9223372036854775808 = 0 by omega, if_neg (by omega), if_pos h2]
  rfl

theorem V_normal (w : Nat) (h1 : 4503599627370496 ≤ w) : V w = (4503599627370496 + w % 4503599627370496) * 2 ^ (w / 4503599627370496 - 1) := by
  unfold V
  rw [if_neg (by omega)]

theorem normal_of {w : Nat} (h : 4503599627370496 ≤ V w) : 4503599627370496 ≤ w := by
  refine Nat.le_of_not_lt fun h' => ?_
  unfold V at h
  rw [if_pos h'] at h
  omega

theorem log2_norm (r : Nat) : (4503599627370496 + r % 4503599627370496).log2 = 52 := by
  have h0 : 4503599627370496 + r % 4503599627370496 ≠ 0 := by omega
  have l1 : 52 ≤ (4503599627370496 + r % 4503599627370496).log2 := by rw [Nat.le_log2 h0, p52]; omega
  have l2 : (4503599627370496 + r % 4503599627370496).log2 < 53 := by rw [Nat.log2_lt h0, p53]; omega
  omega

theorem pow_mono {a b : Nat} (h : a ≤ b) : (2 : Nat) ^ a ≤ 2 ^ b := Nat.pow_le_pow_right (by omega) h
theorem pow_lt {a b : Nat} (h : a < b) : (2 : Nat) ^ a < 2 ^ b := Nat.pow_lt_pow_right (by omega) h
theorem pow_exact (e : Nat) : V (R (2 ^ e)) = 2 ^ e := by have := V_exact 1 e (by omega); rwa [Nat.one_mul] at this

theorem read_one : double.read 4607182418800017408 = .number false 4503599627370496 (-52) := by decide
theorem read_p53 : double.read 4845873199050653696 = .number false 4503599627370496 1 := by decide

/-- The inverse of a whole number. -/
theorem inv_ok (D : Nat) (h1 : 1 ≤ D) (h2 : D < 2 ^ 63) : ∃ r, double.div 4607182418800017408 (R (D * 2 ^ 1074)) = some r ∧ r < 9218868437227405312 ∧ 2 ^ 1010 ≤ V r ∧ V r ≤ 2 ^ 1075 := by
  have hlo : 2 ^ 1074 ≤ V (R (D * 2 ^ 1074)) := by
    rw [← pow_exact 1074]
    refine R_ge ?_
    rw [pow_exact]
    exact Nat.le_mul_of_pos_left _ h1
  have hhi : V (R (D * 2 ^ 1074)) ≤ 2 ^ 1137 := by
    rw [← pow_exact 1137]
    refine R_le ?_
    rw [pow_exact, show 1137 = 63 + 1074 by omega, Nat.pow_add]
    exact Nat.mul_le_mul_right _ (Nat.le_of_lt h2)
  have hfin : R (D * 2 ^ 1074) < 9218868437227405312 := by
    refine R_small ?_
    have := Nat.mul_lt_mul_of_pos_right h2 (Nat.two_pow_pos 1074)
    rw [← Nat.pow_add] at this
    exact Nat.lt_trans this (pow_lt (by omega))
  generalize R (D * 2 ^ 1074) = w at *
  have hn : 4503599627370496 ≤ w := normal_of (Nat.le_trans (by rw [← p52]; exact pow_mono (by omega)) hlo)
  have hV := V_normal w hn
  have hl := log2_norm w
  unfold Format.div
  rw [read_one, read_normal w hn hfin]
  have hn1 : 4503599627370496 + w % 4503599627370496 < 9007199254740992 := by omega
  have hn0 : 4503599627370496 ≤ 4503599627370496 + w % 4503599627370496 := by omega
  generalize 4503599627370496 + w % 4503599627370496 = n at *
  generalize w / 4503599627370496 - 1 = f at *
  have hl1 : Nat.log2 4503599627370496 = 52 := by rw [← p52, Nat.log2_two_pow]
  simp only [Datum.quotient, Option.map_some, Format.write, Bool.xor_self, show double.fractionBits = 52 from rfl, hl, hl1, if_neg (show ¬ n = 0 by omega), shl_eq]
  rw [show (52 + 2 + 52 - 52 : Nat) = 54 from rfl]
  have f1 : 1022 ≤ f := by
    refine Nat.le_of_not_lt fun h => ?_
    have : n * 2 ^ f < 9007199254740992 * 2 ^ 1021 := Nat.lt_of_lt_of_le (Nat.mul_lt_mul_of_pos_right hn1 (Nat.two_pow_pos _)) (Nat.mul_le_mul_left _ (pow_mono (by omega)))
    rw [← p53, ← Nat.pow_add] at this
    omega
  have f2 : f ≤ 1085 := by
    refine Nat.le_of_not_lt fun h => ?_
    have : 4503599627370496 * 2 ^ 1086 ≤ n * 2 ^ f := Nat.mul_le_mul hn0 (pow_mono (by omega))
    rw [← p52, ← Nat.pow_add] at this
    have := pow_lt (show 1137 < 1138 by omega)
    omega
  have q1 : 9007199254740992 ≤ 4503599627370496 * 2 ^ 54 / n := by
    rw [Nat.le_div_iff_mul_le (by omega)]
    have : 4503599627370496 * 2 ^ 54 = 9007199254740992 * 9007199254740992 := by decide
    rw [this]
    exact Nat.mul_le_mul_left _ (Nat.le_of_lt hn1)
  have q2 : 4503599627370496 * 2 ^ 54 / n ≤ 18014398509481984 := by
    refine Nat.le_of_lt_succ ((Nat.div_lt_iff_lt_mul (by omega)).2 ?_)
    have : 4503599627370496 * 2 ^ 54 = 18014398509481984 * 4503599627370496 := by decide
    rw [this]
    omega
  generalize 4503599627370496 * 2 ^ 54 / n = q at *
  have hb := Bool.toNat_le (4503599627370496 * 2 ^ 54 % n != 0)
  generalize (4503599627370496 * 2 ^ 54 % n != 0).toNat = s at *
  rw [nearest_eq false (2 * q + s) (2041 - f) 0 ((2 * q + s) * 2 ^ (2041 - f)) _ (by omega) (by rw [Nat.pow_zero, Nat.mul_one]), word_false]
  have hN1 : 2 ^ 1010 ≤ (2 * q + s) * 2 ^ (2041 - f) := by
    rw [show 1010 = 54 + 956 by omega, Nat.pow_add]
    exact Nat.mul_le_mul (by omega) (pow_mono (by omega))
  have hN2 : (2 * q + s) * 2 ^ (2041 - f) ≤ 2 ^ 1075 := by
    rw [show 1075 = 56 + 1019 by omega, Nat.pow_add]
    exact Nat.mul_le_mul (by omega) (pow_mono (by omega))
  have hsm : (2 * q + s) * 2 ^ (2041 - f) < 2 ^ 1200 := Nat.lt_of_le_of_lt hN2 (pow_lt (by omega))
  rw [Nat.min_eq_left (Nat.le_of_lt (R_small hsm))]
  refine ⟨_, rfl, R_small hsm, ?_, ?_⟩
  · rw [← pow_exact 1010]; refine R_ge ?_; rw [pow_exact]; exact hN1
  · rw [← pow_exact 1075]; refine R_le ?_; rw [pow_exact]; exact hN2

theorem udiv_aux (c w : Nat) (hV : V w = c * 2 ^ 1074) (hn : 4503599627370496 ≤ w) (hfin : w < 9218868437227405312) (hN : R (c * 2 ^ 1021) < 9218868437227405312) :
    double.div w 4845873199050653696 = some (R (c * 2 ^ 1021)) := by
  have hV2 := V_normal w hn
  have hl := log2_norm w
  unfold Format.div
  rw [read_p53, read_normal w hn hfin]
  generalize 4503599627370496 + w % 4503599627370496 = n at hV2 hl ⊢
  generalize w / 4503599627370496 - 1 = f at hV2 ⊢
  have hl1 : Nat.log2 4503599627370496 = 52 := by rw [← p52, Nat.log2_two_pow]
  have e1 : n * 2 ^ 54 / 4503599627370496 = n * 4 := by
    rw [show (2 : Nat) ^ 54 = 4 * 4503599627370496 by decide, ← Nat.mul_assoc, Nat.mul_div_cancel _ (by omega)]
  have e2 : n * 2 ^ 54 % 4503599627370496 = 0 := by
    rw [show (2 : Nat) ^ 54 = 4 * 4503599627370496 by decide, ← Nat.mul_assoc, Nat.mul_mod_left]
  simp only [Datum.quotient, Option.map_some, Format.write, Bool.xor_self, show double.fractionBits = 52 from rfl, hl, hl1, shl_eq, show ¬ ((4503599627370496 : Nat) = 0) by decide, if_false]
  rw [show (52 + 2 + 52 - 52 : Nat) = 54 from rfl, e1, e2]
  have key : (2 * (n * 4) + (0 != 0 : Bool).toNat) * 2 ^ f = c * 2 ^ 1021 * 2 ^ 56 := by
    rw [hV] at hV2
    rw [show (2 * (n * 4) + (0 != 0 : Bool).toNat) = 8 * n by simp; omega, Nat.mul_assoc, ← hV2, Nat.mul_assoc, ← Nat.pow_add, show 1021 + 56 = 1074 + 3 from rfl, Nat.pow_add 2 1074 3]
    generalize 2 ^ 1074 = z
    rw [show (2 : Nat) ^ 3 = 8 from rfl, ← Nat.mul_assoc, Nat.mul_comm, Nat.mul_comm 8 c, Nat.mul_left_comm]
  rw [nearest_eq false (2 * (n * 4) + (0 != 0 : Bool).toNat) f 56 (c * 2 ^ 1021) _ (by clear hV hV2 hN key; omega) key, word_false, Nat.min_eq_left (Nat.le_of_lt hN)]

theorem scaled_small (c e : Nat) (hc : c < 9007199254740992) (he : e ≤ 1100) : c * 2 ^ e < 2 ^ 1200 := by
  have := Nat.mul_lt_mul_of_pos_right hc (Nat.two_pow_pos e)
  rw [← p53, ← Nat.pow_add] at this
  exact Nat.lt_trans this (pow_lt (by omega))

/-- The draw: c of the 2 ^ 53 points. -/
theorem udiv_ok (c : Nat) (hc : c < 9007199254740992) : double.div (R (c * 2 ^ 1074)) 4845873199050653696 = some (R (c * 2 ^ 1021)) := by
  by_cases h0 : c = 0
  · subst h0
    simp only [Nat.zero_mul, R_zero]
    decide
  refine udiv_aux c _ (V_exact c 1074 hc) (normal_of ?_) (R_small (scaled_small c 1074 hc (by omega))) (R_small (scaled_small c 1021 hc (by omega)))
  rw [V_exact c 1074 hc, ← p52]
  exact Nat.le_trans (pow_mono (by omega)) (Nat.le_mul_of_pos_left _ (by omega))

/-- A sum so great is a multiple of 2 ^ 53. -/
theorem V_dvd (w : Nat) (h : 2 ^ 200 ≤ V w) : ∃ q, V w = 9007199254740992 * q := by
  have h54 : 54 * 4503599627370496 ≤ w := by
    refine Nat.le_of_not_lt fun h' => ?_
    have := V_lt h'
    have e : V (54 * 4503599627370496) = 4503599627370496 * 2 ^ 53 := by decide
    rw [e, ← p52, ← Nat.pow_add] at this
    have := pow_lt (show 52 + 53 < 200 by omega)
    omega
  rw [V_normal w (by omega)]
  obtain ⟨d, hd⟩ : ∃ d, w / 4503599627370496 - 1 = 53 + d := ⟨w / 4503599627370496 - 1 - 53, by omega⟩
  rw [hd, Nat.pow_add, p53]
  exact ⟨(4503599627370496 + w % 4503599627370496) * 2 ^ d, by rw [Nat.mul_left_comm]⟩

end Go.Proofs.Qxb6613901a.Fl
