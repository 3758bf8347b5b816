import Derived.Test.Qxb6613901aBackWalk
import Derived.Test.Qxb6613901aAskPlain
import Derived.Deep.CutBlock
namespace Go.Proofs.Qxb6613901a
open Go Go.RowKit
attribute [local go_sem ↓] Go.wp_at_zero Go.wp_at_succ

set_option maxRecDepth 100000 in
set_option maxHeartbeats 1600000 in
theorem bytes13 (p step lnk mx : Int) (a1 a2 a3 : Option Addr) (n1 n2 n3 c1 c2 c3 : Nat) (w : World) (h1 : n1 ≤ maxLen) (h2 : n2 ≤ maxLen) (h3 : n3 ≤ maxLen) :
    Calls Try.prog 13 #[.int .i64 p, .int .i64 step, .slice a1 n1 c1, .slice a2 n2 c2, .int .i64 lnk, .int .i64 mx, .slice a3 n3 c3] w fun e w' =>
      e = .returned (.bool (decide (n1 + n2 + n3 ≤ 1048576))) ∧ w' = w := by
  unfold maxLen at h1 h2 h3
  by_cases g1 : 1048576 < n1
  · go_enter Try.func13, Try.ntmps13
    go_wp2
    go_ret
    exact ⟨ret_bool (by simp; omega), rfl⟩
  by_cases g2 : 1048576 < n2
  · go_enter Try.func13, Try.ntmps13
    go_wp2
    go_ret
    exact ⟨ret_bool (by simp; omega), rfl⟩
  by_cases g3 : 1048576 < n1 + n2
  · go_enter Try.func13, Try.ntmps13
    go_wp2
    go_ret
    exact ⟨ret_bool (by simp; omega), rfl⟩
  by_cases g4 : 1048576 < n3
  · go_enter Try.func13, Try.ntmps13
    go_wp2
    go_ret
    exact ⟨ret_bool (by simp; omega), rfl⟩
  by_cases g5 : 1048576 < n1 + n2 + n3
  · go_enter Try.func13, Try.ntmps13
    go_wp2
    go_ret
    exact ⟨ret_bool (by simp; omega), rfl⟩
  · go_enter Try.func13, Try.ntmps13
    go_wp2
    go_ret
    exact ⟨ret_bool (by simp; omega), rfl⟩

end Go.Proofs.Qxb6613901a
