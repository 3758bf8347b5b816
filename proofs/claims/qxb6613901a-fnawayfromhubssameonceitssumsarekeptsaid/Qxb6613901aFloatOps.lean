import Derived.Test.Qxb6613901aFloatNear
namespace Go.Proofs.Qxb6613901a.Fl
open Ieee

theorem rne_scale (n g c : Nat) (hc : 0 < c) : rne (n * c) (g * c) = rne n g := by
  unfold rne
  rw [Nat.mul_div_mul_right _ _ hc, Nat.mul_mod_mul_right]
  generalize n % g = r
  have h1 : decide (g * c < 2 * (r * c)) = decide (g < 2 * r) := by
    rw [← Nat.mul_assoc]
    exact decide_eq_decide.2 (Nat.mul_lt_mul_right hc)
  have h2 : (g * c == 2 * (r * c)) = (g == 2 * r) := by
    rw [← Nat.mul_assoc, Bool.eq_iff_iff, beq_iff_eq, beq_iff_eq]
    exact Nat.mul_left_inj (by omega)
  rw [h1, h2]

theorem log2_scale (n k : Nat) (hn : n ≠ 0) : (n * 2 ^ k).log2 = n.log2 + k := by
  have hp := Nat.two_pow_pos k
  have hn' : n * 2 ^ k ≠ 0 := by
    have := Nat.mul_pos (show 0 < n by omega) hp
    omega
  have l1 : n.log2 + k ≤ (n * 2 ^ k).log2 := by
    rw [Nat.le_log2 hn', Nat.pow_add]; exact Nat.mul_le_mul_right _ (Nat.log2_self_le hn)
  have l2 : (n * 2 ^ k).log2 < n.log2 + 1 + k := by
    rw [Nat.log2_lt hn', Nat.pow_add]; exact Nat.mul_lt_mul_of_pos_right Nat.lt_log2_self hp
  omega

theorem R_zero : R 0 = 0 := by
  have := R_V 0
  simpa [V] using this

theorem cut_even (neg : Bool) (n drop : Nat) (h : drop ≤ n.log2 + 2) : Toward.even.cut neg n drop = rne n (2 ^ drop) := by
  unfold Toward.cut rne
  rw [Nat.min_eq_left h]
  simp only [Nat.one_shiftLeft]

theorem infD : double.infRung = 9218868437227405312 := by decide
theorem leastD : double.leastPlace = -1074 := by decide
theorem binadeD : double.binade = 4503599627370496 := by decide
theorem signD : double.signWeight = 9223372036854775808 := by decide

/-- 'mag * 2 ^ a' units is 'N * 2 ^ b' units: the word nearest to it stands on the rung 'R N'. -/
theorem nearest_eq (neg : Bool) (mag a b N : Nat) (place : Int) (hp : place = -1074 + a - b) (h : mag * 2 ^ a = N * 2 ^ b) :
    double.nearest neg mag place = double.word neg (min (R N) 9218868437227405312) := by
  unfold Format.nearest
  by_cases hm : mag = 0
  · have hN : N = 0 := by
      subst hm
      rw [Nat.zero_mul] at h
      have := Nat.two_pow_pos b
      rcases Nat.mul_eq_zero.1 h.symm with h | h <;> omega
    rw [if_pos hm, hN, R_zero]
    rfl
  · rw [if_neg hm]
    have hN : N ≠ 0 := by
      rintro rfl
      have := Nat.mul_pos (show 0 < mag by omega) (Nat.two_pow_pos a)
      omega
    have hl : mag.log2 + a = N.log2 + b := by rw [← log2_scale mag a hm, ← log2_scale N b hN, h]
    have hlast : max (place + mag.log2 - double.fractionBits) (-1074) = -1074 + (K N : Int) := by
      rw [show double.fractionBits = 52 from rfl]
      unfold K
      omega
    simp only [leastD, binadeD, infD]
    rw [hlast]
    rw [show (-1074 + (K N : Int) - -1074).toNat = K N by omega]
    congr 2
    unfold R
    congr 1
    by_cases hd : b + K N ≤ a
    · obtain ⟨up, rfl⟩ : ∃ up, a = b + K N + up := ⟨a - (b + K N), by omega⟩
      rw [show (place - (-1074 + (K N : Int))).toNat = up by omega, show (-1074 + (K N : Int) - place).toNat = 0 by omega, cut_even _ _ _ (by omega), Nat.pow_zero, rne_one, Nat.shiftLeft_eq]
      have e : N = mag * 2 ^ up * 2 ^ K N := by
        have h' : mag * 2 ^ up * 2 ^ K N * 2 ^ b = N * 2 ^ b := by
          rw [← h, Nat.pow_add, Nat.pow_add]
          generalize 2 ^ b = x; generalize 2 ^ K N = y; generalize 2 ^ up = z
          rw [Nat.mul_assoc, Nat.mul_assoc, Nat.mul_comm z, Nat.mul_comm y x]
        exact (Nat.eq_of_mul_eq_mul_right (Nat.two_pow_pos b) h').symm
      clear hlast hp h hl hd
      generalize K N = k at e ⊢
      rw [e, rne_mul _ _ (Nat.two_pow_pos _)]
    · obtain ⟨drop, hdrop⟩ : ∃ drop, drop + a = b + K N := ⟨b + K N - a, by omega⟩
      rw [show (place - (-1074 + (K N : Int))).toNat = 0 by omega, show (-1074 + (K N : Int) - place).toNat = drop by omega, Nat.shiftLeft_eq, Nat.pow_zero, Nat.mul_one]
      have hdl : drop ≤ mag.log2 := by unfold K at *; omega
      rw [cut_even _ _ _ (by omega)]
      have e : mag * 2 ^ K N = N * 2 ^ drop := by
        have h' : mag * 2 ^ K N * 2 ^ b = N * 2 ^ drop * 2 ^ b := by
          have : mag * 2 ^ (drop + a) = N * 2 ^ b * 2 ^ drop := by rw [← h, Nat.pow_add, Nat.mul_assoc, Nat.mul_comm (2 ^ a)]
          rw [hdrop, Nat.pow_add] at this
          rw [Nat.mul_assoc, Nat.mul_comm (2 ^ K N), this, Nat.mul_assoc, Nat.mul_comm (2 ^ b), ← Nat.mul_assoc]
        exact Nat.eq_of_mul_eq_mul_right (Nat.two_pow_pos b) h'
      rw [← rne_scale mag (2 ^ drop) (2 ^ K N) (Nat.two_pow_pos _), e, Nat.mul_comm (2 ^ drop), rne_scale _ _ _ (Nat.two_pow_pos _)]

theorem R_small {n : Nat} (h : n < 2 ^ 1200) : R n < 9218868437227405312 := by
  have hk : K n ≤ 1147 := by
    unfold K
    by_cases h0 : n = 0
    · subst h0; simp
    · have := (Nat.log2_lt h0 (k := 1200)).2 h
      omega
  have := kept_hi n
  unfold R
  omega

/-- What a finite word stands for. -/
theorem read_fin (w : Nat) (h : w % 9223372036854775808 < 9218868437227405312) :
    ∃ mag e : Nat, double.read w = .number (w / 9223372036854775808 % 2 == 1) mag (-1074 + (e : Int)) ∧ mag * 2 ^ e = V (w % 9223372036854775808) := by
  unfold Format.read
  simp only [signD, binadeD, infD, leastD]
  generalize w % 9223372036854775808 = r at *
  by_cases h1 : r < 4503599627370496
  · rw [if_pos h1]
    exact ⟨r, 0, by simp, by unfold V; rw [if_pos h1]; simp⟩
  · rw [if_neg h1, if_pos h]
    exact ⟨_, r / 4503599627370496 - 1, rfl, by unfold V; rw [if_neg h1]⟩

/-- A word without its sign bit. -/
theorem read_pos (w : Nat) (h : w < 9218868437227405312) :
    ∃ mag e : Nat, double.read w = .number false mag (-1074 + (e : Int)) ∧ mag * 2 ^ e = V w := by
  obtain ⟨mag, e, h1, h2⟩ := read_fin w (by omega)
  rw [show w % 9223372036854775808 = w by omega] at h2
  rw [show w / 9223372036854775808 = 0 by omega] at h1
  exact ⟨mag, e, h1, h2⟩

theorem word_false (r : Nat) : double.word false r = r := rfl
theorem word_true (r : Nat) : double.word true r = 9223372036854775808 + r := rfl

theorem shl_eq (m k : Nat) : m <<< k = m * 2 ^ k := Nat.shiftLeft_eq m k

theorem pos_split (i j : Nat) : ∃ c i' j', i = c + i' ∧ j = c + j' ∧ min i j = c := ⟨min i j, i - min i j, j - min i j, by omega, by omega, rfl⟩

theorem add_pos {x y : Nat} (hx : x < 9218868437227405312) (hy : y < 9218868437227405312) (hs : V x + V y < 2 ^ 1200) : double.add x y = some (R (V x + V y)) := by
  obtain ⟨m, i, hx1, hx2⟩ := read_pos x hx
  obtain ⟨n, j, hy1, hy2⟩ := read_pos y hy
  obtain ⟨c, i', j', rfl, rfl, hc⟩ := pos_split i j
  unfold Format.add
  rw [hx1, hy1]
  simp only [Datum.sum, Option.map_some, Option.some.injEq, Format.write, signed, shl_eq, Bool.false_eq_true, if_false, Bool.and_self]
  rw [show (-1074 + ((c + i' : Nat) : Int) - min (-1074 + ((c + i' : Nat) : Int)) (-1074 + ((c + j' : Nat) : Int))).toNat = i' by omega, show (-1074 + ((c + j' : Nat) : Int) - min (-1074 + ((c + i' : Nat) : Int)) (-1074 + ((c + j' : Nat) : Int))).toNat = j' by omega]
  have hneg : (if ((m * 2 ^ i' : Nat) : Int) + ((n * 2 ^ j' : Nat) : Int) = 0 then false else decide (((m * 2 ^ i' : Nat) : Int) + ((n * 2 ^ j' : Nat) : Int) < 0)) = false := by
    split
    · rfl
    · exact decide_eq_false (by omega)
  rw [hneg, show (((m * 2 ^ i' : Nat) : Int) + ((n * 2 ^ j' : Nat) : Int)).natAbs = m * 2 ^ i' + n * 2 ^ j' by omega]
  rw [nearest_eq false (m * 2 ^ i' + n * 2 ^ j') c 0 (V x + V y) _ (by omega) (by rw [← hx2, ← hy2, Nat.pow_zero, Nat.mul_one, Nat.add_mul, Nat.mul_assoc, Nat.mul_assoc, ← Nat.pow_add, ← Nat.pow_add, Nat.add_comm i', Nat.add_comm j']), word_false, Nat.min_eq_left (Nat.le_of_lt (R_small hs))]

theorem sum_scale (m n i j c : Nat) : (m * 2 ^ i + n * 2 ^ j) * 2 ^ c = m * 2 ^ (c + i) + n * 2 ^ (c + j) := by
  rw [Nat.add_mul, Nat.mul_assoc, Nat.mul_assoc, ← Nat.pow_add, ← Nat.pow_add, Nat.add_comm i, Nat.add_comm j]
theorem diff_scale (m n i j c : Nat) : (m * 2 ^ i - n * 2 ^ j) * 2 ^ c = m * 2 ^ (c + i) - n * 2 ^ (c + j) := by
  rw [Nat.sub_mul, Nat.mul_assoc, Nat.mul_assoc, ← Nat.pow_add, ← Nat.pow_add, Nat.add_comm i, Nat.add_comm j]

theorem le_scale {m n i j c : Nat} : m * 2 ^ i ≤ n * 2 ^ j ↔ m * 2 ^ (c + i) ≤ n * 2 ^ (c + j) := by
  rw [Nat.add_comm c, Nat.add_comm c, Nat.pow_add, Nat.pow_add, ← Nat.mul_assoc, ← Nat.mul_assoc]
  exact (Nat.mul_le_mul_right_iff (Nat.two_pow_pos c)).symm

theorem sub_ge {x y : Nat} (hx : x < 9218868437227405312) (hy : y < 9218868437227405312) (hs : V x < 2 ^ 1200) (h : V y ≤ V x) : double.sub x y = some (R (V x - V y)) := by
  obtain ⟨m, i, hx1, hx2⟩ := read_pos x hx
  obtain ⟨n, j, hy1, hy2⟩ := read_pos y hy
  obtain ⟨c, i', j', rfl, rfl, hc⟩ := pos_split i j
  unfold Format.sub
  rw [hx1, hy1]
  simp only [Datum.opposite, Datum.sum, Option.map_some, Option.some.injEq, Format.write, signed, shl_eq, Bool.false_eq_true, if_false, Bool.not_false, if_true, Bool.false_and]
  rw [show (-1074 + ((c + i' : Nat) : Int) - min (-1074 + ((c + i' : Nat) : Int)) (-1074 + ((c + j' : Nat) : Int))).toNat = i' by omega, show (-1074 + ((c + j' : Nat) : Int) - min (-1074 + ((c + i' : Nat) : Int)) (-1074 + ((c + j' : Nat) : Int))).toNat = j' by omega]
  have hle : n * 2 ^ j' ≤ m * 2 ^ i' := le_scale.2 (by rw [hx2, hy2]; exact h)
  have hneg : (if ((m * 2 ^ i' : Nat) : Int) + -((n * 2 ^ j' : Nat) : Int) = 0 then false else decide (((m * 2 ^ i' : Nat) : Int) + -((n * 2 ^ j' : Nat) : Int) < 0)) = false := by
    split
    · rfl
    · exact decide_eq_false (by omega)
  rw [hneg, show (((m * 2 ^ i' : Nat) : Int) + -((n * 2 ^ j' : Nat) : Int)).natAbs = m * 2 ^ i' - n * 2 ^ j' by omega]
  rw [nearest_eq false (m * 2 ^ i' - n * 2 ^ j') c 0 (V x - V y) _ (by omega) (by rw [← hx2, ← hy2, Nat.pow_zero, Nat.mul_one, diff_scale]), word_false, Nat.min_eq_left (Nat.le_of_lt (R_small (by omega)))]

theorem sub_lt {x y : Nat} (hx : x < 9218868437227405312) (hy : y < 9218868437227405312) (hs : V y < 2 ^ 1200) (h : V x < V y) : double.sub x y = some (9223372036854775808 + R (V y - V x)) := by
  obtain ⟨m, i, hx1, hx2⟩ := read_pos x hx
  obtain ⟨n, j, hy1, hy2⟩ := read_pos y hy
  obtain ⟨c, i', j', rfl, rfl, hc⟩ := pos_split i j
  unfold Format.sub
  rw [hx1, hy1]
  simp only [Datum.opposite, Datum.sum, Option.map_some, Option.some.injEq, Format.write, signed, shl_eq, Bool.false_eq_true, if_false, Bool.not_false, if_true, Bool.false_and]
  rw [show (-1074 + ((c + i' : Nat) : Int) - min (-1074 + ((c + i' : Nat) : Int)) (-1074 + ((c + j' : Nat) : Int))).toNat = i' by omega, show (-1074 + ((c + j' : Nat) : Int) - min (-1074 + ((c + i' : Nat) : Int)) (-1074 + ((c + j' : Nat) : Int))).toNat = j' by omega]
  have hlt : m * 2 ^ i' < n * 2 ^ j' := Nat.lt_of_not_le fun h' => by
    have := (le_scale (c := c)).1 h'
    omega
  have hneg : (if ((m * 2 ^ i' : Nat) : Int) + -((n * 2 ^ j' : Nat) : Int) = 0 then false else decide (((m * 2 ^ i' : Nat) : Int) + -((n * 2 ^ j' : Nat) : Int) < 0)) = true := by
    rw [if_neg (by omega)]
    exact decide_eq_true (by omega)
  rw [hneg, show (((m * 2 ^ i' : Nat) : Int) + -((n * 2 ^ j' : Nat) : Int)).natAbs = n * 2 ^ j' - m * 2 ^ i' by omega]
  rw [nearest_eq true (n * 2 ^ j' - m * 2 ^ i') c 0 (V y - V x) _ (by omega) (by rw [← hx2, ← hy2, Nat.pow_zero, Nat.mul_one, diff_scale]), word_true, Nat.min_eq_left (Nat.le_of_lt (R_small (by omega)))]

theorem mul_pos {x y N : Nat} (hx : x < 9218868437227405312) (hy : y < 9218868437227405312) (hN : N * 2 ^ 1074 = V x * V y) (hs : N < 2 ^ 1200) : double.mul x y = some (R N) := by
  obtain ⟨m, i, hx1, hx2⟩ := read_pos x hx
  obtain ⟨n, j, hy1, hy2⟩ := read_pos y hy
  unfold Format.mul
  rw [hx1, hy1]
  simp only [Datum.product, Option.map_some, Option.some.injEq, Format.write, Bool.xor_self]
  rw [nearest_eq false (m * n) (i + j) 1074 N _ (by omega) (by rw [hN, ← hx2, ← hy2, Nat.pow_add]; generalize 2 ^ i = a; generalize 2 ^ j = b; rw [Nat.mul_assoc, Nat.mul_assoc, Nat.mul_left_comm n]), word_false, Nat.min_eq_left (Nat.le_of_lt (R_small hs))]

/-- The value of a word in units. -/
def fv (w : Nat) : Int := if w / 9223372036854775808 % 2 == 1 then -(V (w % 9223372036854775808) : Int) else (V (w % 9223372036854775808) : Int)

theorem fv_pos {w : Nat} (h : w < 9218868437227405312) : fv w = V w := by
  unfold fv
  rw [show w / 9223372036854775808 = 0 by omega, show w % 9223372036854775808 = w by omega]
  rfl
theorem fv_neg {r : Nat} (h : r < 9218868437227405312) : fv (9223372036854775808 + r) = -(V r : Int) := by
  unfold fv
  rw [show (9223372036854775808 + r) / 9223372036854775808 = 1 by omega, show (9223372036854775808 + r) % 9223372036854775808 = r by omega]
  rfl

theorem compare_scale (x y : Int) (c : Int) (hc : 0 < c) : compare (x * c) (y * c) = compare x y := by
  rcases Int.lt_trichotomy x y with h | h | h
  · rw [Int.compare_eq_lt.2 h, Int.compare_eq_lt.2 (Int.mul_lt_mul_of_pos_right h hc)]
  · rw [h]; simp
  · rw [Int.compare_eq_gt.2 h, Int.compare_eq_gt.2 (Int.mul_lt_mul_of_pos_right h hc)]

theorem signed_scale (s : Bool) (m i c : Nat) : signed s m i * ((2 ^ c : Nat) : Int) = (if s then -((m * 2 ^ (c + i) : Nat) : Int) else ((m * 2 ^ (c + i) : Nat) : Int)) := by
  unfold signed
  rw [shl_eq, Nat.add_comm c, Nat.pow_add, ← Nat.mul_assoc]
  split
  · rw [Int.neg_mul, Int.natCast_mul]; simp
  · rw [Int.natCast_mul]; simp

theorem order_fv {x y : Nat} (hx : x % 9223372036854775808 < 9218868437227405312) (hy : y % 9223372036854775808 < 9218868437227405312) : double.order x y = some (compare (fv x) (fv y)) := by
  obtain ⟨m, i, hx1, hx2⟩ := read_fin x hx
  obtain ⟨n, j, hy1, hy2⟩ := read_fin y hy
  obtain ⟨c, i', j', rfl, rfl, hc⟩ := pos_split i j
  unfold Format.order
  rw [hx1, hy1]
  simp only [Datum.order]
  rw [show (-1074 + ((c + i' : Nat) : Int) - min (-1074 + ((c + i' : Nat) : Int)) (-1074 + ((c + j' : Nat) : Int))).toNat = i' by omega, show (-1074 + ((c + j' : Nat) : Int) - min (-1074 + ((c + i' : Nat) : Int)) (-1074 + ((c + j' : Nat) : Int))).toNat = j' by omega]
  rw [← compare_scale _ _ ((2 ^ c : Nat) : Int) (by exact_mod_cast Nat.two_pow_pos c), signed_scale, signed_scale, hx2, hy2]
  rfl

end Go.Proofs.Qxb6613901a.Fl
