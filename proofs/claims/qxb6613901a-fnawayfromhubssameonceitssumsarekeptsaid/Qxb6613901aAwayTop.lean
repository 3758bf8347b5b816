import Derived.Test.Qxb6613901aAwayKept
namespace Go.Proofs.Qxb6613901a
open Go Go.RowKit

set_option maxRecDepth 100000 in
theorem zzaway (H R : Nat) (w : World) (Q : Ending → World → Prop) (v : Value) (hc : Calls Try.prog 38 #[.pointer (some ⟨H, 0, none⟩), .pointer (some ⟨R, 0, none⟩)] w fun e w' => e = .returned v ∧ Q e w') :
    Calls Try.prog 31 #[.pointer (some ⟨H, 0, none⟩), .pointer (some ⟨R, 0, none⟩)] w fun e w' => e = .returned v ∧ Q e w' := by
  have HC := hide hc
  clear hc
  go_enter Try.func31, Try.ntmps31
  go_wp2_with (go_at_call 38; refine (HC.out).mono ?_; rintro e w' ⟨rfl, hq⟩)
  go_ret
  exact ⟨rfl, hq⟩

set_option maxRecDepth 100000 in
theorem bytes28 (ao : Option Addr) (n cap : Nat) (a b c d : Int) (w : World) (hn : n ≤ maxLen) :
    Calls Try.prog 28 #[.slice ao n cap, .int .u64 a, .int .u64 b, .int .u64 c, .int .u64 d] w fun e w' => e = .returned (.bool (decide (n ≤ 1048576))) ∧ w' = w := by
  unfold maxLen at hn
  by_cases g : n ≤ 1048576
  · have d1 : decide (1048576 < (n : Int)) = false := decide_eq_false (by omega)
    rw [decide_eq_true g]
    go_enter Try.func28, Try.ntmps28
    go_wp2
    go_ret
    exact ⟨rfl, rfl⟩
  · have d1 : decide (1048576 < (n : Int)) = true := decide_eq_true (by omega)
    rw [decide_eq_false g]
    go_enter Try.func28, Try.ntmps28
    go_wp2
    go_ret
    exact ⟨rfl, rfl⟩

end Go.Proofs.Qxb6613901a
