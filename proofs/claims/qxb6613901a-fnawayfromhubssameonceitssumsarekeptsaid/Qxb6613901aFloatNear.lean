import Ieee.Arith
namespace Go.Proofs.Qxb6613901a.Fl

/-- The magnitude on a rung, in units of the least subnormal number. -/
def V (r : Nat) : Nat := if r < 4503599627370496 then r else (4503599627370496 + r % 4503599627370496) * 2 ^ (r / 4503599627370496 - 1)

/-- 'n / g' to the nearest, ties to even. -/
def rne (n g : Nat) : Nat := n / g + (decide (g < 2 * (n % g)) || (g == 2 * (n % g) && n / g % 2 == 1)).toNat

def K (n : Nat) : Nat := n.log2 - 52
/-- The rung of a whole number of units. -/
def R (n : Nat) : Nat := K n * 4503599627370496 + rne n (2 ^ K n)

theorem p52 : (2 : Nat) ^ 52 = 4503599627370496 := by decide
theorem p53 : (2 : Nat) ^ 53 = 9007199254740992 := by decide

theorem rne_le_succ (n g : Nat) : rne n g ≤ n / g + 1 := by
  unfold rne
  have := Bool.toNat_le (decide (g < 2 * (n % g)) || (g == 2 * (n % g) && n / g % 2 == 1))
  omega
theorem rne_ge (n g : Nat) : n / g ≤ rne n g := by unfold rne; omega

theorem rne_lo {n g c : Nat} (hg : 0 < g) (h : c * g ≤ n) : c ≤ rne n g := Nat.le_trans ((Nat.le_div_iff_mul_le hg).2 h) (rne_ge n g)

theorem rne_mul (c g : Nat) (hg : 0 < g) : rne (c * g) g = c := by
  unfold rne
  rw [Nat.mul_div_cancel _ hg, Nat.mul_mod_left]
  have h1 : decide (g < 2 * 0) = false := by simp
  have h2 : (g == 2 * 0) = false := by simp; omega
  rw [h1, h2]
  simp

theorem rne_one (n : Nat) : rne n 1 = n := by have := rne_mul n 1 (by omega); rwa [Nat.mul_one] at this

theorem rne_hi {n g c : Nat} (hg : 0 < g) (h : n ≤ c * g) : rne n g ≤ c := by
  by_cases e : n = c * g
  · rw [e, rne_mul c g hg]; exact Nat.le_refl _
  · have : n / g < c := (Nat.div_lt_iff_lt_mul hg).2 (by omega)
    exact Nat.le_trans (rne_le_succ n g) this

theorem rne_mono {m n g : Nat} (h : m ≤ n) : rne m g ≤ rne n g := by
  have hd := Nat.div_le_div_right (c := g) h
  by_cases e : m / g = n / g
  · have h1 := Nat.div_add_mod m g
    have h2 := Nat.div_add_mod n g
    rw [e] at h1
    have hr : m % g ≤ n % g := by omega
    unfold rne
    rw [e]
    refine Nat.add_le_add_left ?_ _
    have key : ∀ a b : Bool, (a = true → b = true) → a.toNat ≤ b.toNat := by decide
    refine key _ _ ?_
    simp only [Bool.or_eq_true, decide_eq_true_eq, Bool.and_eq_true, beq_iff_eq]
    rintro (h3 | ⟨h3, h4⟩)
    · left; omega
    · by_cases h5 : g < 2 * (n % g)
      · left; exact h5
      · right; exact ⟨by omega, h4⟩
  · exact Nat.le_trans (rne_le_succ m g) (Nat.le_trans (by omega) (rne_ge n g))

theorem rne_err (n g : Nat) (hg : 0 < g) : 2 * n ≤ 2 * (rne n g * g) + g ∧ 2 * (rne n g * g) ≤ 2 * n + g := by
  have h1 := Nat.div_add_mod n g
  have h2 := Nat.mod_lt n hg
  rw [Nat.mul_comm] at h1
  unfold rne
  generalize n / g = q at *
  generalize n % g = r at *
  by_cases h3 : g < 2 * r
  · have : decide (g < 2 * r) = true := decide_eq_true h3
    rw [this]
    simp only [Bool.true_or, Bool.toNat_true, Nat.add_mul, Nat.one_mul]
    omega
  · have h4 : decide (g < 2 * r) = false := decide_eq_false h3
    rw [h4]
    cases hb : (g == 2 * r && q % 2 == 1)
    · simp only [Bool.or_false, Bool.toNat_false, Nat.add_zero]
      omega
    · simp only [Bool.and_eq_true, beq_iff_eq] at hb
      simp only [Bool.or_true, Bool.toNat_true, Nat.add_mul, Nat.one_mul]
      omega

theorem V_kept (k c : Nat) (h2 : c ≤ 9007199254740992) (h1 : k = 0 ∨ 4503599627370496 ≤ c) : V (k * 4503599627370496 + c) = c * 2 ^ k := by
  unfold V
  by_cases hc : c < 4503599627370496
  · have hk : k = 0 := by omega
    subst hk
    rw [if_pos (by omega)]
    simp
  · rw [if_neg (by omega)]
    by_cases hc2 : c < 9007199254740992
    · rw [show (k * 4503599627370496 + c) % 4503599627370496 = c - 4503599627370496 by omega, show (k * 4503599627370496 + c) / 4503599627370496 - 1 = k by omega, show 4503599627370496 + (c - 4503599627370496) = c by omega]
    · obtain rfl : c = 9007199254740992 := by omega
      rw [show (k * 4503599627370496 + 9007199254740992) % 4503599627370496 = 0 by omega, show (k * 4503599627370496 + 9007199254740992) / 4503599627370496 - 1 = k + 1 by omega, Nat.pow_succ]
      generalize 2 ^ k = p
      omega

theorem K_hi (n : Nat) : n < 2 ^ K n * 9007199254740992 := by
  by_cases h : n = 0
  · subst h; exact Nat.mul_pos (Nat.two_pow_pos _) (by omega)
  · have := Nat.lt_log2_self (n := n)
    refine Nat.lt_of_lt_of_le this ?_
    rw [← p53, ← Nat.pow_add]
    exact Nat.pow_le_pow_right (by omega) (by unfold K; omega)

theorem K_lo (n : Nat) (hk : 0 < K n) : 2 ^ K n * 4503599627370496 ≤ n := by
  have hn : n ≠ 0 := by rintro rfl; simp [K] at hk
  have := Nat.log2_self_le hn
  refine Nat.le_trans ?_ this
  rw [← p52, ← Nat.pow_add]
  exact Nat.pow_le_pow_right (by omega) (by unfold K at *; omega)

theorem kept_hi (n : Nat) : rne n (2 ^ K n) ≤ 9007199254740992 := rne_hi (Nat.two_pow_pos _) (by rw [Nat.mul_comm]; exact Nat.le_of_lt (K_hi n))
theorem kept_lo (n : Nat) (hk : 0 < K n) : 4503599627370496 ≤ rne n (2 ^ K n) := rne_lo (Nat.two_pow_pos _) (by rw [Nat.mul_comm]; exact K_lo n hk)

theorem VR (n : Nat) : V (R n) = rne n (2 ^ K n) * 2 ^ K n := by
  refine V_kept _ _ (kept_hi n) ?_
  by_cases h : K n = 0
  · exact Or.inl h
  · exact Or.inr (kept_lo n (by omega))

/-- The error of one rounding. -/
theorem R_err (n : Nat) : 9007199254740992 * V (R n) ≤ 9007199254740992 * n + V (R n) ∧ 9007199254740992 * n ≤ 9007199254740992 * V (R n) + V (R n) := by
  rw [VR]
  by_cases h : K n = 0
  · rw [h, Nat.pow_zero, rne_one]; omega
  · have h1 := kept_lo n (by omega)
    have h2 := rne_err n (2 ^ K n) (Nat.two_pow_pos _)
    have h3 := Nat.mul_le_mul_right (2 ^ K n) h1
    generalize rne n (2 ^ K n) * 2 ^ K n = c at *
    generalize 2 ^ K n = g at *
    omega

theorem log2_mono {m n : Nat} (h : m ≤ n) : m.log2 ≤ n.log2 := by
  by_cases hm : m = 0
  · subst hm; simp
  · rw [Nat.le_log2 (by omega)]
    exact Nat.le_trans (Nat.log2_self_le hm) h

theorem R_mono {m n : Nat} (h : m ≤ n) : R m ≤ R n := by
  have hk : K m ≤ K n := by have := log2_mono h; unfold K; omega
  unfold R
  by_cases e : K m = K n
  · rw [e]; exact Nat.add_le_add_left (rne_mono h) _
  · have h1 := kept_hi m
    have h2 := kept_lo n (by omega)
    omega

theorem R_V (r : Nat) : R (V r) = r := by
  unfold V
  by_cases h : r < 4503599627370496
  · rw [if_pos h]
    have : K r = 0 := by
      unfold K
      by_cases h0 : r = 0
      · subst h0; simp
      · have := (Nat.log2_lt h0 (k := 52)).2 (by rw [p52]; exact h)
        omega
    unfold R
    rw [this, Nat.pow_zero, rne_one]; omega
  · rw [if_neg h]
    generalize hk : r / 4503599627370496 - 1 = k
    have hc : 4503599627370496 + r % 4503599627370496 < 9007199254740992 := by omega
    have hc2 : 4503599627370496 ≤ 4503599627370496 + r % 4503599627370496 := by omega
    have hr : r = k * 4503599627370496 + (4503599627370496 + r % 4503599627370496) := by omega
    generalize 4503599627370496 + r % 4503599627370496 = c at *
    have hp := Nat.two_pow_pos k
    have hn : c * 2 ^ k ≠ 0 := by
      have := Nat.mul_pos (show 0 < c by omega) hp
      omega
    have l1 : 52 + k ≤ (c * 2 ^ k).log2 := by
      rw [Nat.le_log2 hn, Nat.pow_add, p52]; exact Nat.mul_le_mul_right _ hc2
    have l2 : (c * 2 ^ k).log2 < 53 + k := by
      rw [Nat.log2_lt hn, Nat.pow_add, p53]; exact Nat.mul_lt_mul_of_pos_right hc hp
    have hK : K (c * 2 ^ k) = k := by unfold K; omega
    unfold R
    rw [hK, rne_mul c _ hp]
    omega

theorem V_lt {a b : Nat} (h : a < b) : V a < V b := by
  refine Nat.lt_of_not_le fun h2 => ?_
  have := R_mono h2
  rw [R_V, R_V] at this
  omega
theorem V_le {a b : Nat} (h : a ≤ b) : V a ≤ V b := by
  by_cases e : a = b
  · rw [e]; exact Nat.le_refl _
  · exact Nat.le_of_lt (V_lt (by omega))

/-- The sandwich. -/
theorem R_ge {c n : Nat} (h : V c ≤ n) : V c ≤ V (R n) := by
  have := R_mono h
  rw [R_V] at this
  exact V_le this
theorem R_le {c n : Nat} (h : n ≤ V c) : V (R n) ≤ V c := by
  have := R_mono h
  rw [R_V] at this
  exact V_le this

end Go.Proofs.Qxb6613901a.Fl
