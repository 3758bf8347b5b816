import Derived.Test.Qxb6613901aAwayOps
import Derived.Deep.DeepCutAuto
import Derived.Deep.Cut
namespace Go.Proofs.Qxb6613901a
open Go Go.RowKit

theorem degs_get {ds : List Int} (h : Degs ds) {k : Nat} (hk : k < ds.length) : 1 ≤ ds.getD k 0 ∧ ds.getD k 0 < 9223372036854775808 := by
  refine h _ ?_
  simp [List.getD, hk]

set_option exponentiation.threshold 3000 in
theorem small_1200 {n : Nat} (h : n ≤ 2 ^ 1092) : n < 2 ^ 1200 := Nat.lt_of_le_of_lt h (Fl.pow_lt (by decide))
set_option exponentiation.threshold 3000 in
theorem small_1200' {n : Nat} (h : n ≤ 2 ^ 1075) : n < 2 ^ 1200 := Nat.lt_of_le_of_lt h (Fl.pow_lt (by decide))

set_option exponentiation.threshold 3000 in
theorem sw_run (ds : List Int) (h : Degs ds) (k : Nat) (hk : k < ds.length) (hn : ds.length ≤ 131072) (w : World) :
    (binOp .add 74 (.float .f64 (Fl.sw (wts ds) k)) (.float .f64 (wt (ds.getD k 0)))).run Try.prog w = .ok (.float .f64 (Fl.sw (wts ds) (k + 1))) w := by
  obtain ⟨h1, h2⟩ := degs_get h hk
  obtain ⟨-, f2, -, f4⟩ := wt_ok _ h1 h2
  have e : Fl.sw (wts ds) (k + 1) = Fl.R (Fl.V (Fl.sw (wts ds) k) + Fl.V (wt (ds.getD k 0))) := by rw [Fl.sw, wts_get ds k hk]
  rw [e]
  refine add_run _ _ (sw_fin ds h k (by omega)) f2 ?_ w
  have h3 := sum_small ds h k (by omega)
  refine Nat.lt_of_le_of_lt (Nat.add_le_add h3 (Nat.le_trans f4 (Fl.pow_mono (show 1075 ≤ 1092 by decide)))) ?_
  rw [← Nat.two_mul, Nat.mul_comm, ← Nat.pow_succ]
  exact Fl.pow_lt (by decide)

set_option maxRecDepth 100000 in
theorem total_any (v : Value) (ds : List Int) (w : World) (hv : IntsAt w v ds) (h : Degs ds) (hn : ds.length ≤ 131072) :
    Calls Try.prog 34 #[v] w fun e w' => e = .returned (.float .f64 (Fl.sw (wts ds) ds.length)) ∧ w' = w := by
  obtain ⟨ao, cap, rfl, hcap, f⟩ := hv
  obtain ⟨S, hS⟩ : ∃ S, S = Fl.sw (wts ds) := ⟨_, rfl⟩
  have hr := sw_run ds h
  rw [← hS] at hr ⊢
  have hS0 : S 0 = 0 := by rw [hS]; rfl
  have HR := hide hr
  have HD := hide h
  have HS0 := hide hS0
  clear hr h hS hS0
  go_enter Try.func34, Try.ntmps34
  go_wp2_with fail
  go_loop [3, 4] (fun n i => ∃ (m : Nat), m ≤ ds.length ∧ i = .int .i64 m ∧ n = .float .f64 (S m)) (fun _ i => ds.length - (intOf i).toNat)
  case atStart => exact ⟨0, Nat.zero_le _, rfl, by rw [HS0.out]⟩
  case round =>
    obtain ⟨m, hm, rfl, rfl⟩ := hrel
    by_cases hlt : m < ds.length
    · obtain ⟨b, off, rfl, hcell⟩ := f (by omega)
      have c0 := hcell m hlt
      obtain ⟨d1, d2⟩ := degs_get HD.out hlt
      have qa := HR.out m hlt hn
      generalize ds.getD m 0 = d at *
      have qq := quo_run d d1 d2
      have m0 : (0 : Int) ≤ (m : Int) := by omega
      have m1 : (m : Int) < (ds.length : Int) := by omega
      clear hcell f d1 d2
      go_wp2_with fail
      go_round
      case rel => exact ⟨m + 1, by omega, by go_num, rfl⟩
      case measure => simp [intOf]; omega
    · have dm : decide ((m : Int) < (ds.length : Int)) = false := by simp; omega
      obtain rfl : m = ds.length := by omega
      go_wp2_with fail
      go_ret
      exact ⟨rfl, rfl⟩

theorem drop_wts (ds : List Int) (m : Nat) (h : m < ds.length) : (wts ds).drop m = wt (ds.getD m 0) :: (wts ds).drop (m + 1) := by
  rw [List.drop_eq_getElem_cons (by rw [wts_length]; exact h)]
  have := wts_get ds m h
  rw [← this]
  simp [List.getD, wts_length, h]

/-- One step of pick: what the subtraction gives and what the test then says. -/
theorem pick_step (ds : List Int) (h : Degs ds) (x y : Nat) (m : Nat) (hm : m < ds.length) (hy : y < 9218868437227405312) (hs : Fl.V y ≤ 2 ^ 1092) (hp : Fl.pick ((wts ds).drop m) y m = Fl.pick (wts ds) x 0) :
    ∃ z : Nat, (∀ w, (binOp .sub 74 (.float .f64 y) (.float .f64 (wt (ds.getD m 0)))).run Try.prog w = .ok (.float .f64 z) w) ∧
      (((FloatKind.f64.format.order z 0 == some .lt) = true ∧ Fl.pick (wts ds) x 0 = m) ∨
       ((FloatKind.f64.format.order z 0 == some .lt) = false ∧ z < 9218868437227405312 ∧ Fl.V z ≤ 2 ^ 1092 ∧ Fl.pick ((wts ds).drop (m + 1)) z (m + 1) = Fl.pick (wts ds) x 0)) := by
  obtain ⟨h1, h2⟩ := degs_get h hm
  obtain ⟨-, f2, -, f4⟩ := wt_ok _ h1 h2
  rw [drop_wts ds m hm, Fl.pick] at hp
  generalize wt (ds.getD m 0) = g at *
  have hn := subw_neg y g (small_1200 hs) (small_1200' f4)
  refine ⟨subw y g, sub_run y g hy f2 (small_1200 hs) (small_1200' f4), ?_⟩
  by_cases hlt : Fl.V y < Fl.V g
  · left
    rw [if_pos hlt] at hp
    rw [hn, decide_eq_true hlt]
    exact ⟨rfl, hp.symm⟩
  · right
    rw [if_neg hlt] at hp
    have e : subw y g = Fl.R (Fl.V y - Fl.V g) := by unfold subw; rw [if_pos (Nat.le_of_not_lt hlt)]
    rw [hn, decide_eq_false hlt, e]
    exact ⟨rfl, Fl.R_small (Nat.lt_of_le_of_lt (Nat.sub_le _ _) (small_1200 hs)), Nat.le_trans (Fl.R_le (Nat.sub_le _ _)) hs, hp⟩

theorem pick_end (ds : List Int) (x y : Nat) (hp : Fl.pick ((wts ds).drop ds.length) y ds.length = Fl.pick (wts ds) x 0) : Fl.pick (wts ds) x 0 = ds.length - 1 := by
  rw [← hp, List.drop_eq_nil_of_le (by rw [wts_length]; exact Nat.le_refl _)]
  rfl

set_option maxRecDepth 100000 in
theorem zzpick_any (v : Value) (ds : List Int) (x : Nat) (w : World) (hv : IntsAt w v ds) (h : Degs ds) (hn : ds.length ≤ 131072) (h0 : 0 < ds.length) (hx : x < 9218868437227405312) (hxs : Fl.V x ≤ 2 ^ 1092) :
    Calls Try.prog 35 #[v, .float .f64 x] w fun e w' => e = .returned (.int .i64 (Fl.pick (wts ds) x 0 : Nat)) ∧ w' = w := by
  obtain ⟨ao, cap, rfl, hcap, f⟩ := hv
  have HX := hide (And.intro hx hxs)
  have HD := hide h
  clear h hx hxs
  go_enter Try.func35, Try.ntmps35
  go_wp2_with fail
  go_loop [1, 5] (fun n i => ∃ (m y : Nat), m ≤ ds.length ∧ i = .int .i64 m ∧ n = .float .f64 y ∧ Hid (y < 9218868437227405312) ∧ Hid (Fl.V y ≤ 2 ^ 1092) ∧ Hid (Fl.pick ((wts ds).drop m) y m = Fl.pick (wts ds) x 0)) (fun _ i => ds.length - (intOf i).toNat)
  case atStart => exact ⟨0, x, Nat.zero_le _, rfl, rfl, HX.out.1, HX.out.2, rfl⟩
  case round =>
    obtain ⟨m, y, hm, rfl, rfl, hy1, hy2, hy3⟩ := hrel
    by_cases hlt : m < ds.length
    · obtain ⟨b, off, rfl, hcell⟩ := f (by omega)
      have c0 := hcell m hlt
      obtain ⟨d1, d2⟩ := degs_get HD.out hlt
      obtain ⟨z, qs, hz⟩ := pick_step ds HD.out x y m hlt hy1.out hy2.out hy3.out
      generalize ds.getD m 0 = d at *
      have qq := quo_run d d1 d2
      have m0 : (0 : Int) ≤ (m : Int) := by omega
      have m1 : (m : Int) < (ds.length : Int) := by omega
      clear hcell f d1 d2
      rcases hz with ⟨ho, hp⟩ | ⟨ho, z1, z2, z3⟩
      · have HP := hide hp
        clear hp
        go_wp2_with fail
        go_ret
        exact ⟨by rw [HP.out]; rfl, rfl⟩
      · have HZ := hide (And.intro z1 (And.intro z2 z3))
        clear z1 z2 z3
        go_wp2_with fail
        go_round
        case rel => exact ⟨m + 1, z, by omega, by go_num, rfl, HZ.out.1, HZ.out.2.1, HZ.out.2.2⟩
        case measure => simp [intOf]; omega
    · have dm : decide ((m : Int) < (ds.length : Int)) = false := by simp; omega
      obtain rfl : m = ds.length := by omega
      have HP := hide (pick_end ds x y hy3.out)
      go_wp2_with fail
      go_ret
      refine ⟨?_, rfl⟩
      have hc : ((ds.length - 1 : Nat) : Int) = (ds.length : Int) - 1 := by omega
      rw [HP.out, hc]
      rfl

end Go.Proofs.Qxb6613901a
