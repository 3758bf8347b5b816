import Derived.Test.Qxb6613901aFloatMore
namespace Go.Proofs.Qxb6613901a.Fl

/-- The rounded sums of the weights, as words. -/
def sw (ws : List Nat) : Nat → Nat
  | 0 => 0
  | k + 1 => R (V (sw ws k) + V (ws.getD k 0))

/-- The exact sums, in units. -/
def ew (ws : List Nat) : Nat → Nat
  | 0 => 0
  | k + 1 => ew ws k + V (ws.getD k 0)

/-- pick: the weights taken off x one after the other. -/
def pick : List Nat → Nat → Nat → Nat
  | [], _, i => i - 1
  | w :: ws, x, i => if V x < V w then i else pick ws (R (V x - V w)) (i + 1)

theorem V_zero : V 0 = 0 := rfl

theorem sw_up (ws : List Nat) (k : Nat) : V (sw ws k) ≤ V (sw ws (k + 1)) := R_ge (Nat.le_add_right _ _)
theorem sw_mono (ws : List Nat) {k n : Nat} (h : k ≤ n) : V (sw ws k) ≤ V (sw ws n) := by
  induction h with
  | refl => exact Nat.le_refl _
  | step _ ih => exact Nat.le_trans ih (sw_up ws _)
theorem w_le (ws : List Nat) (k : Nat) : V (ws.getD k 0) ≤ V (sw ws (k + 1)) := R_ge (Nat.le_add_left _ _)

theorem ew_mono (ws : List Nat) {k n : Nat} (h : k ≤ n) : ew ws k ≤ ew ws n := by
  induction h with
  | refl => exact Nat.le_refl _
  | step _ ih => exact Nat.le_trans ih (Nat.le_add_right _ _)

theorem mul_succ_q (k q : Nat) : (k + 1) * q = k * q + q := Nat.succ_mul k q

/-- One rounding below a total of '2 ^ 53 * q' is off by q at most. -/
theorem R_err_q {m q : Nat} (h : V (R m) ≤ 9007199254740992 * q) : V (R m) ≤ m + q ∧ m ≤ V (R m) + q := by
  have := R_err m
  omega

theorem sw_err (ws : List Nat) (n q : Nat) (hT : V (sw ws n) ≤ 9007199254740992 * q) : ∀ k, k ≤ n → V (sw ws k) ≤ ew ws k + k * q ∧ ew ws k ≤ V (sw ws k) + k * q := by
  intro k
  induction k with
  | zero => intro _; simp [sw, ew, V_zero]
  | succ k ih =>
    intro hk
    obtain ⟨h1, h2⟩ := ih (by omega)
    have h3 : V (sw ws (k + 1)) ≤ 9007199254740992 * q := Nat.le_trans (sw_mono ws hk) hT
    have h4 := R_err_q (m := V (sw ws k) + V (ws.getD k 0)) h3
    change V (sw ws (k + 1)) ≤ _ ∧ _ ≤ V (sw ws (k + 1)) + q at h4
    rw [mul_succ_q]
    simp only [ew]
    omega

theorem pick_at (ws : List Nat) (n q X M i : Nat) (hn : ws.length = n) (hT : V (sw ws n) ≤ 9007199254740992 * q) (hX : X ≤ 9007199254740992 * q) (hi : i < n) (hM : 2 * ((n + 1) * q) ≤ M)
    (h1 : V (sw ws i) + M < X) (h2 : X + M < V (sw ws (i + 1))) :
    ∀ d k y, i = k + d → V y ≤ X → V y + ew ws k ≤ X + k * q → X ≤ V y + ew ws k + k * q → pick (ws.drop k) y k = i := by
  obtain ⟨s1, s2⟩ := sw_err ws n q hT i (by omega)
  obtain ⟨t1, t2⟩ := sw_err ws n q hT (i + 1) (by omega)
  have hiq : (i + 1) * q ≤ (n + 1) * q := Nat.mul_le_mul_right _ (by omega)
  rw [mul_succ_q] at hiq t1 t2
  intro d
  induction d with
  | zero =>
    intro k y hk hy h3 h4
    obtain rfl : i = k := by omega
    have hd : ws.drop i = ws.getD i 0 :: ws.drop (i + 1) := by
      rw [List.drop_eq_getElem_cons (by omega)]
      simp [List.getD, hn, hi]
    rw [hd, pick, if_pos]
    simp only [ew] at t1 t2
    omega
  | succ d ih =>
    intro k y hk hy h3 h4
    have hd : ws.drop k = ws.getD k 0 :: ws.drop (k + 1) := by
      have : k < n := by omega
      rw [List.drop_eq_getElem_cons (by omega)]
      simp [List.getD, hn, this]
    have hkq : k * q ≤ i * q := Nat.mul_le_mul_right _ (by omega)
    have hke := ew_mono ws (show k + 1 ≤ i by omega)
    simp only [ew] at hke
    have hge : V (ws.getD k 0) ≤ V y := by omega
    rw [hd, pick, if_neg (by omega)]
    have hle : V (R (V y - V (ws.getD k 0))) ≤ V y := R_le (by omega)
    have he := R_err_q (m := V y - V (ws.getD k 0)) (q := q) (by omega)
    refine ih (k + 1) _ (by omega) (by omega) ?_ ?_
    · rw [mul_succ_q]; simp only [ew]; omega
    · rw [mul_succ_q]; simp only [ew]; omega

/-- WHERE THE SEARCH CAN TELL, pick STOPS WHERE THE SEARCH SAYS. -/
theorem pick_told (ws : List Nat) (n q x M i : Nat) (hn : ws.length = n) (hT : V (sw ws n) ≤ 9007199254740992 * q) (hX : V x ≤ 9007199254740992 * q) (hi : i < n) (hM : 2 * ((n + 1) * q) ≤ M)
    (h1 : V (sw ws i) + M < V x) (h2 : V x + M < V (sw ws (i + 1))) : pick ws x 0 = i := by
  have := pick_at ws n q (V x) M i hn hT hX hi hM h1 h2 i 0 x (by omega) (Nat.le_refl _) (by simp [ew]) (by simp [ew])
  rwa [List.drop_zero] at this

/-- The sums stay small. -/
theorem sw_small (ws : List Nat) (B : Nat) (hw : ∀ w ∈ ws, V w ≤ 2 ^ B) : ∀ k, k < 9007199254740992 → V (sw ws k) ≤ k * 2 ^ B := by
  intro k
  induction k with
  | zero => intro _; simp [sw, V_zero]
  | succ k ih =>
    intro hk
    have h1 := ih (by omega)
    have h2 : V (ws.getD k 0) ≤ 2 ^ B := by
      rw [List.getD_eq_getElem?_getD]
      cases h : ws[k]? with
      | none => simp [V_zero]
      | some w => exact hw w (List.mem_of_getElem? h)
    have h3 := V_exact (k + 1) B hk
    rw [← h3]
    refine R_le ?_
    rw [h3, Nat.succ_mul]
    omega

end Go.Proofs.Qxb6613901a.Fl
