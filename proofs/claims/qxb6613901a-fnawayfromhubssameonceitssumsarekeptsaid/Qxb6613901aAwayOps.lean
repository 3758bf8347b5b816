import Derived.Test.Qxb6613901aLeaf
import Derived.Test.Qxb6613901aAwayPlain
import Derived.Laws.FloatArith
import Derived.WalkLawsBesides
namespace Go.Proofs.Qxb6613901a
open Go Go.RowKit

/-- The weight of a degree, as a word. -/
noncomputable def wt (d : Int) : Nat := (Ieee.double.div 4607182418800017408 (Fl.R (d.natAbs * 2 ^ 1074))).getD 0

theorem ofInt_eq (d : Int) (h1 : 0 ≤ d) (h2 : d < 9223372036854775808) : floatOfInt .f64 d = Fl.R (d.natAbs * 2 ^ 1074) := by
  unfold floatOfInt FloatKind.nearest FloatKind.encode
  have e : decide (d < 0) = false := decide_eq_false (by omega)
  rw [e]
  refine Fl.ofNat_eq d.natAbs ?_
  have : (9223372036854775808 : Nat) < 2 ^ 100 := by decide
  omega

theorem wt_ok (d : Int) (h1 : 1 ≤ d) (h2 : d < 9223372036854775808) : Ieee.double.div 4607182418800017408 (Fl.R (d.natAbs * 2 ^ 1074)) = some (wt d) ∧ wt d < 9218868437227405312 ∧ 2 ^ 1010 ≤ Fl.V (wt d) ∧ Fl.V (wt d) ≤ 2 ^ 1075 := by
  have e63 : (2 : Nat) ^ 63 = 9223372036854775808 := by decide
  obtain ⟨r, hr, h⟩ := Fl.inv_ok d.natAbs (by omega) (by omega)
  have e : wt d = r := by unfold wt; rw [hr]; rfl
  rw [e]
  exact ⟨hr, h⟩

theorem quo_run (d : Int) (h1 : 1 ≤ d) (h2 : d < 9223372036854775808) (w : World) : (binOp .quo 74 (.float .f64 4607182418800017408) (.float .f64 (floatOfInt .f64 d))).run Try.prog w = .ok (.float .f64 (wt d)) w := by
  refine run_float_arith w .quo 74 .f64 _ _ _ ?_
  rw [ofInt_eq d (by omega) h2]
  exact (wt_ok d h1 h2).1

theorem add_run (x y : Nat) (hx : x < 9218868437227405312) (hy : y < 9218868437227405312) (hs : Fl.V x + Fl.V y < 2 ^ 1200) (w : World) : (binOp .add 74 (.float .f64 x) (.float .f64 y)).run Try.prog w = .ok (.float .f64 (Fl.R (Fl.V x + Fl.V y))) w :=
  run_float_arith w .add 74 .f64 _ _ _ (Fl.add_pos hx hy hs)

/-- What x less w is, as a word. -/
noncomputable def subw (x y : Nat) : Nat := if Fl.V y ≤ Fl.V x then Fl.R (Fl.V x - Fl.V y) else 9223372036854775808 + Fl.R (Fl.V y - Fl.V x)

theorem sub_run (x y : Nat) (hx : x < 9218868437227405312) (hy : y < 9218868437227405312) (hs : Fl.V x < 2 ^ 1200) (ht : Fl.V y < 2 ^ 1200) (w : World) : (binOp .sub 74 (.float .f64 x) (.float .f64 y)).run Try.prog w = .ok (.float .f64 (subw x y)) w := by
  refine run_float_arith w .sub 74 .f64 _ _ _ ?_
  unfold subw
  split
  · exact Fl.sub_ge hx hy hs (by assumption)
  · exact Fl.sub_lt hx hy ht (by omega)

theorem R_pos {n : Nat} (h : 0 < n) : 0 < Fl.V (Fl.R n) := by
  have : Fl.V 1 ≤ Fl.V (Fl.R n) := Fl.R_ge (by change 1 ≤ n; omega)
  exact Nat.lt_of_lt_of_le (by decide) this

theorem subw_fin (x y : Nat) (hs : Fl.V x < 2 ^ 1200) (ht : Fl.V y < 2 ^ 1200) : subw x y % 9223372036854775808 < 9218868437227405312 := by
  unfold subw
  split
  · have := Fl.R_small (n := Fl.V x - Fl.V y) (Nat.lt_of_le_of_lt (Nat.sub_le _ _) hs)
    omega
  · have := Fl.R_small (n := Fl.V y - Fl.V x) (Nat.lt_of_le_of_lt (Nat.sub_le _ _) ht)
    omega

theorem subw_neg (x y : Nat) (hs : Fl.V x < 2 ^ 1200) (ht : Fl.V y < 2 ^ 1200) : (FloatKind.f64.format.order (subw x y) 0 == some .lt) = decide (Fl.V x < Fl.V y) := by
  have h := Fl.order_fv (x := subw x y) (y := 0) (subw_fin x y hs ht) (by decide)
  change (Ieee.double.order (subw x y) 0 == some .lt) = _
  rw [h]
  have z : Fl.fv 0 = 0 := by decide
  rw [z]
  unfold subw
  split
  · rename_i hle
    rw [Fl.fv_pos (Fl.R_small (Nat.lt_of_le_of_lt (Nat.sub_le _ _) hs))]
    have : ¬ (Fl.V x < Fl.V y) := by omega
    rw [decide_eq_false this]
    have hn : ¬ ((Fl.V (Fl.R (Fl.V x - Fl.V y)) : Int) < 0) := by omega
    rw [Bool.eq_false_iff]
    intro hb
    simp only [beq_iff_eq, Option.some.injEq] at hb
    exact hn (Int.compare_eq_lt.1 hb)
  · rename_i hle
    rw [Fl.fv_neg (Fl.R_small (Nat.lt_of_le_of_lt (Nat.sub_le _ _) ht))]
    have : Fl.V x < Fl.V y := by omega
    rw [decide_eq_true this]
    have hp := R_pos (n := Fl.V y - Fl.V x) (by omega)
    rw [Int.compare_eq_lt.2 (show -(Fl.V (Fl.R (Fl.V y - Fl.V x)) : Int) < 0 by omega)]
    rfl

/-- Degrees that the law lets by. -/
def Degs (ds : List Int) : Prop := ∀ d ∈ ds, 1 ≤ d ∧ d < 9223372036854775808

/-- The degrees' weights. -/
noncomputable def wts (ds : List Int) : List Nat := ds.map wt
theorem wts_length (ds : List Int) : (wts ds).length = ds.length := by simp [wts]
theorem map_getD {α β : Type} (f : α → β) (l : List α) (k : Nat) (h : k < l.length) (a : α) (b : β) : (l.map f).getD k b = f (l.getD k a) := by simp [List.getD, h]
theorem wts_get (ds : List Int) (k : Nat) (h : k < ds.length) : (wts ds).getD k 0 = wt (ds.getD k 0) := map_getD wt ds k h 0 0

theorem wts_small (ds : List Int) (h : Degs ds) : ∀ w ∈ wts ds, Fl.V w ≤ 2 ^ 1075 := by
  intro w hw
  simp only [wts, List.mem_map] at hw
  obtain ⟨d, hd, rfl⟩ := hw
  exact (wt_ok d (h d hd).1 (h d hd).2).2.2.2

set_option exponentiation.threshold 3000 in
theorem sum_small (ds : List Int) (h : Degs ds) (k : Nat) (hk : k ≤ 131072) : Fl.V (Fl.sw (wts ds) k) ≤ 2 ^ 1092 := by
  have h1 := Fl.sw_small (wts ds) 1075 (wts_small ds h) k (by omega)
  refine Nat.le_trans h1 ?_
  rw [show 1092 = 17 + 1075 from rfl, Nat.pow_add]
  exact Nat.mul_le_mul_right _ (by rw [show (2 : Nat) ^ 17 = 131072 from rfl]; exact hk)

set_option exponentiation.threshold 3000 in
theorem sw_fin (ds : List Int) (h : Degs ds) (k : Nat) (hk : k ≤ 131072) : Fl.sw (wts ds) k < 9218868437227405312 := by
  refine Nat.lt_of_not_le fun hle => ?_
  have h1 := Fl.V_le hle
  have h2 := sum_small ds h k hk
  have h3 : (2 : Nat) ^ 1093 ≤ Fl.V 9218868437227405312 := by
    rw [Fl.V_normal _ (by decide)]
    rw [show (4503599627370496 + 9218868437227405312 % 4503599627370496 : Nat) = 4503599627370496 by decide, show (9218868437227405312 / 4503599627370496 - 1 : Nat) = 2046 by decide]
    exact Nat.le_trans (Fl.pow_mono (show 1093 ≤ 2046 by omega)) (Nat.le_mul_of_pos_left _ (by omega))
  have h4 := Fl.pow_lt (show 1092 < 1093 by omega)
  omega

set_option maxRecDepth 100000 in
theorem weight_any (d : Int) (h1 : 1 ≤ d) (h2 : d < 9223372036854775808) (w : World) : Calls Try.prog 45 #[.int .i64 d] w fun e w' => e = .returned (.float .f64 (wt d)) ∧ w' = w := by
  have q := quo_run d h1 h2
  clear h1 h2
  go_enter Try.func45, Try.ntmps45
  go_wp2_with fail
  go_ret
  exact ⟨rfl, rfl⟩

end Go.Proofs.Qxb6613901a
