import Derived.Test.Qxb6613901aMargin
namespace Go.Proofs.Qxb6613901a
open Go Go.RowKit

theorem xor_top (M : Nat) (hM : M < 2 ^ 63) : M ^^^ 2 ^ 63 = 2 ^ 63 + M := by
  apply Nat.eq_of_testBit_eq
  intro j
  rw [Nat.testBit_xor, Nat.testBit_two_pow]
  rcases Nat.lt_trichotomy j 63 with h | h | h
  · rw [Nat.testBit_two_pow_add_gt h, decide_eq_false (by omega), Bool.xor_false]
  · subst h
    rw [Nat.testBit_two_pow_add_eq]
    simp
  · have h2 : (2 : Nat) ^ 64 ≤ 2 ^ j := Nat.pow_le_pow_right (by omega) h
    have e : (2 : Nat) ^ 64 = 2 ^ 63 + 2 ^ 63 := by decide
    rw [Nat.testBit_lt_two_pow (show M < 2 ^ j by omega), Nat.testBit_lt_two_pow (show 2 ^ 63 + M < 2 ^ j by omega), decide_eq_false (by omega), Bool.xor_false]

theorem neg_eq (M : Nat) (hM : M < 9218868437227405312) : Op.negFloat .f64 M = 9223372036854775808 + M := by
  have := xor_top M (by have e : (2 : Nat) ^ 63 = 9223372036854775808 := by decide
                        rw [e]; omega)
  exact this

/-- The kept sums. -/
noncomputable def sums (ds : List Int) : List Nat := (List.range ds.length).map fun k => Fl.sw (wts ds) (k + 1)
theorem sums_length (ds : List Int) : (sums ds).length = ds.length := by simp [sums]
theorem sums_get (ds : List Int) (k : Nat) (h : k < ds.length) : (sums ds).getD k 0 = Fl.sw (wts ds) (k + 1) := by simp [sums, List.getD, h]

def Told (e : Ending) (p : Nat) : Prop := ∃ (i : Nat) (b : Bool), e = .returned (.tuple #[.int .i64 i, .bool b]) ∧ (b = true → i = p)

set_option maxRecDepth 100000 in
set_option maxHeartbeats 3200000 in
theorem told_any (H : Nat) (dv iv : Value) (ds : List Int) (x q : Nat) (w : World) (hh : HoldAt w H dv iv) (hv : FltsAt w iv (sums ds)) (h : Degs ds) (hn : ds.length ≤ 131072) (h0 : 0 < ds.length) (hx : x < 9218868437227405312)
    (hq : Fl.V (Fl.sw (wts ds) ds.length) = 9007199254740992 * q) (hxs : Fl.V x ≤ 9007199254740992 * q) :
    Calls Try.prog 47 #[.pointer (some ⟨H, 0, none⟩), .float .f64 x] w fun e w' => Told e (Fl.pick (wts ds) x 0) ∧ ∃ n, w' = w.drewN n := by
  have hv' := hv
  obtain ⟨ao, cap, rfl, hcap, f⟩ := hv'
  rw [sums_length] at hcap f
  obtain ⟨b, off, rfl, hcell⟩ := f h0
  have ch2 : w.cell? ⟨H, 2, none⟩ = some (.slice (some ⟨b, off, none⟩) ds.length cap) := by have := blk_cell hh 2; rwa [sums_length] at this
  have ch3 : w.cell? ⟨H, 3, none⟩ = some (.int .i64 0) := blk_cell hh 3
  have hT := sw_fin ds h ds.length hn
  have hTs := sum_small ds h ds.length hn
  obtain ⟨a1, a2, M, q1, q2, q3, hM1, hM2⟩ := margin_run ds.length _ q hn hT hq hTs
  have HINF := hide (isInf_no _ hT)
  have hS : ∀ k, k < ds.length → w.cell? ⟨b, off + k, none⟩ = some (.float .f64 (Fl.sw (wts ds) (k + 1))) := by
    intro k hk; rw [hcell k hk, sums_get ds k hk]
  have cT := hS (ds.length - 1) (by omega)
  rw [show ds.length - 1 + 1 = ds.length by omega] at cT
  have HFS := hide hv
  have HALL := hide (And.intro h (And.intro hq (And.intro hxs (And.intro hM2 hTs))))
  obtain ⟨S, hSdef⟩ : ∃ S, S = Fl.sw (wts ds) := ⟨_, rfl⟩
  rw [← hSdef] at cT hS q3 HINF
  have HS := hide hSdef
  have HCELL := hide hS
  have n0 : (0 : Int) ≤ (ds.length : Int) - 1 := by omega
  have n1 : (ds.length : Int) - 1 < (ds.length : Int) := by omega
  have n2 : ((ds.length : Int) - 1).toNat = ds.length - 1 := by omega
  have HNEG := hide (neg_eq M hM1)
  rw [sums_length] at HFS
  clear hv hcell f hT hTs hM2 h hq hxs hS hSdef hh
  go_enter Try.func47, Try.ntmps47
  go_wp2_with (first | (go_at_call 53; refine (HINF.out _).mono ?_; rintro e w' ⟨rfl, hw⟩; obtain rfl := hw.symm))
  refine (fsearch_any _ (sums ds) x w HFS.out (by rw [sums_length]; exact hn)).mono ?_
  rintro e w' ⟨⟨i, bb, rfl, hi⟩, hw⟩
  obtain rfl := hw.symm
  rw [sums_length] at hi
  clear HINF HFS
  by_cases hin : i = ds.length
  · have hb : ((i : Int) == (ds.length : Int)) = true := by simp [hin]
    clear hin
    go_wp2_with fail
    go_ret2
    exact ⟨⟨0, false, rfl, by simp⟩, 0, rfl⟩
  · have hb : ((i : Int) == (ds.length : Int)) = false := by simp; omega
    have hlt : i < ds.length := by omega
    have ci := HCELL.out i hlt
    have i0 : (0 : Int) ≤ (i : Int) := by omega
    have i1 : (i : Int) < (ds.length : Int) := by omega
    have hx1 : Fl.V x < 2 ^ 1200 := by
      have h1 := HALL.out.2.2.1
      rw [← HALL.out.2.1] at h1
      exact small_1200 (Nat.le_trans h1 HALL.out.2.2.2.2)
    have hsi : ∀ k, k ≤ ds.length → S k < 9218868437227405312 ∧ Fl.V (S k) < 2 ^ 1200 := by
      intro k hk
      rw [HS.out]
      exact ⟨sw_fin ds HALL.out.1 k (by omega), small_1200 (sum_small ds HALL.out.1 k (by omega))⟩
    have qs1 := sub_run x (S i) hx (hsi i (by omega)).1 hx1 (hsi i (by omega)).2
    have qs2 := sub_run x (S (i + 1)) hx (hsi (i + 1) (by omega)).1 hx1 (hsi (i + 1) (by omega)).2
    have HG := hide (subw_gt x (S i) M hx1 (hsi i (by omega)).2 hM1)
    have hl := subw_lt x (S (i + 1)) M hx1 (hsi (i + 1) (by omega)).2 hM1
    rw [← HNEG.out] at hl
    have HL := hide hl
    have HEND : Hid (Fl.V (S i) + Fl.V M < Fl.V x → Fl.V x + Fl.V M < Fl.V (S (i + 1)) → i = Fl.pick (wts ds) x 0) := by
      intro h1 h2
      rw [HS.out] at h1 h2
      exact (Fl.pick_told (wts ds) ds.length q x (Fl.V M) i (wts_length ds) (Nat.le_of_eq HALL.out.2.1) HALL.out.2.2.1 hlt HALL.out.2.2.2.1 h1 h2).symm
    have hS0 : S 0 = 0 := by rw [HS.out]; rfl
    generalize subw x (S i) = z1 at *
    generalize subw x (S (i + 1)) = z2 at *
    generalize S (i + 1) = s1 at *
    have hun : Op.unary .neg (.float .f64 M) = pure (.float .f64 (Op.negFloat .f64 M)) := rfl
    have HNG := hide hun
    clear HNEG
    generalize Op.negFloat .f64 M = NM at *
    clear hl hsi hx1 hin
    by_cases hi0 : i = 0
    · subst hi0
      rw [hS0] at qs1
      rw [Nat.add_zero] at ci
      have dg : decide ((0 : Int) < ((0 : Nat) : Int)) = false := by simp
      cases hg : (FloatKind.f64.format.order z1 M == some .gt)
      · go_wp2_with fail
        go_quiet (fail)
        go_wp2_with fail
        go_ret2
        exact ⟨⟨0, false, rfl, by simp⟩, _, rfl⟩
      · cases hl : (FloatKind.f64.format.order z2 NM == some .lt)
        · go_wp2_with fail
          go_quiet (fail)
          go_wp2_with fail
          go_ret2
          exact ⟨⟨0, false, rfl, by simp⟩, _, rfl⟩
        · have HE := hide (HEND.out (HG.out hg) (HL.out hl))
          clear HEND HG HL
          go_wp2_with fail
          go_quiet (fail)
          go_wp2_with fail
          go_ret2
          exact ⟨⟨0, true, rfl, fun _ => HE.out⟩, _, rfl⟩
    · have c1 := HCELL.out (i - 1) (by omega)
      rw [show i - 1 + 1 = i by omega] at c1
      have dg : decide ((0 : Int) < (i : Int)) = true := by simp; omega
      have dg2 : decide (0 < i) = true := by simp; omega
      have j0 : (0 : Int) ≤ (i : Int) - 1 := by omega
      have j1 : (i : Int) - 1 < (ds.length : Int) := by omega
      have j2 : ((i : Int) - 1).toNat = i - 1 := by omega
      cases hg : (FloatKind.f64.format.order z1 M == some .gt)
      · go_wp2_with fail
        go_quiet (fail)
        go_wp2_with fail
        go_ret2
        exact ⟨⟨i, false, rfl, by simp⟩, _, rfl⟩
      · cases hl : (FloatKind.f64.format.order z2 NM == some .lt)
        · go_wp2_with fail
          go_quiet (fail)
          go_wp2_with fail
          go_ret2
          exact ⟨⟨i, false, rfl, by simp⟩, _, rfl⟩
        · have HE := hide (HEND.out (HG.out hg) (HL.out hl))
          clear HEND HG HL
          go_wp2_with fail
          go_quiet (fail)
          go_wp2_with fail
          go_ret2
          exact ⟨⟨i, true, rfl, fun _ => HE.out⟩, _, rfl⟩

end Go.Proofs.Qxb6613901a
