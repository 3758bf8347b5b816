import Derived.Test.Qxb6613901aPickM
namespace Go.Proofs.Qxb6613901a
open Go Go.RowKit

/-- A slice of floats that reads as ss. -/
def FltsAt (w : World) (v : Value) (ss : List Nat) : Prop :=
  ∃ ao cap, v = .slice ao ss.length cap ∧ ss.length ≤ cap ∧ (0 < ss.length → ∃ b off, ao = some ⟨b, off, none⟩ ∧ ∀ k, k < ss.length → w.cell? ⟨b, off + k, none⟩ = some (.float .f64 (ss.getD k 0)))

def Cmp (e : Ending) : Prop := ∃ c : Int, e = .returned (.int .i64 c) ∧ (c = -1 ∨ c = 1)
def Found (e : Ending) (n : Nat) : Prop := ∃ (i : Nat) (b : Bool), e = .returned (.tuple #[.int .i64 i, .bool b]) ∧ i ≤ n

set_option maxRecDepth 100000 in
theorem fcmp_any (s x : Nat) (w : World) : Calls Try.prog 55 #[.float .f64 s, .float .f64 x] w fun e w' => Cmp e ∧ w' = w := by
  cases hb : (FloatKind.f64.format.order s x == some .lt || FloatKind.f64.format.order s x == some .eq)
  · go_enter Try.func55, Try.ntmps55
    go_wp2
    go_ret
    exact ⟨⟨1, rfl, Or.inr rfl⟩, rfl⟩
  · go_enter Try.func55, Try.ntmps55
    go_wp2
    go_ret
    exact ⟨⟨-1, rfl, Or.inl rfl⟩, rfl⟩

set_option maxRecDepth 100000 in
theorem fsearch_any (v : Value) (ss : List Nat) (x : Nat) (w : World) (hv : FltsAt w v ss) (hn : ss.length ≤ 131072) :
    Calls Try.prog 54 #[v, .float .f64 x, .func (.func 55) #[] #[]] w fun e w' => Found e ss.length ∧ w' = w := by
  obtain ⟨ao, cap, rfl, hcap, f⟩ := hv
  have HC := hide fcmp_any
  go_enter Try.func54, Try.ntmps54
  go_wp2_with fail
  go_loop [9, 10] (fun p q => ∃ (i j : Nat), i ≤ j ∧ j ≤ ss.length ∧ p = .int .i64 i ∧ q = .int .i64 j) (fun p q => (intOf q).toNat - (intOf p).toNat)
  case atStart => exact ⟨0, ss.length, Nat.zero_le _, Nat.le_refl _, rfl, rfl⟩
  case round =>
    obtain ⟨i, j, hij, hj, rfl, rfl⟩ := hrel
    by_cases hlt : i < j
    · obtain ⟨b, off, rfl, hcell⟩ := f (by omega)
      obtain ⟨m, hm⟩ : ∃ m, m = (i + j) / 2 := ⟨_, rfl⟩
      have hmi : i ≤ m := by omega
      have hmj : m < j := by omega
      have c0 := hcell m (by omega)
      have m0 : (0 : Int) ≤ (m : Int) := by omega
      have m1 : (m : Int) < (ss.length : Int) := by omega
      have w1 : IntKind.u64.wrap ((i : Int) + (j : Int)) = (i : Int) + (j : Int) := by rw [IntKind.wrap_u64]; omega
      have w2 : ((i : Int) + (j : Int)) / 2 = (m : Int) := by omega
      generalize ss.getD m 0 = s at *
      clear hcell f hm
      go_wp2_with (go_at_call 55; refine (HC.out _ _ _).mono ?_; rintro e w' ⟨⟨c, rfl, hc⟩, hw⟩; obtain rfl := hw.symm)
      all_goals
        go_round
        case rel => first | exact ⟨m + 1, j, by omega, by omega, by go_num, rfl⟩ | exact ⟨i, m, by omega, by omega, rfl, rfl⟩
        case measure => simp [intOf]; omega
    · have dm : decide ((i : Int) < (j : Int)) = false := by simp; omega
      by_cases hin : i < ss.length
      · obtain ⟨b, off, rfl, hcell⟩ := f (by omega)
        have c0 := hcell i hin
        have m0 : (0 : Int) ≤ (i : Int) := by omega
        have m1 : (i : Int) < (ss.length : Int) := by omega
        generalize ss.getD i 0 = s at *
        clear hcell f
        go_wp2_with (go_at_call 55; refine (HC.out _ _ _).mono ?_; rintro e w' ⟨⟨c, rfl, hc⟩, hw⟩; obtain rfl := hw.symm)
        go_ret2
        exact ⟨⟨i, _, rfl, by omega⟩, rfl⟩
      · have dn : decide ((i : Int) < (ss.length : Int)) = false := by simp; omega
        go_wp2_with fail
        go_ret2
        exact ⟨⟨i, false, rfl, by omega⟩, rfl⟩

end Go.Proofs.Qxb6613901a
