import Derived.Test.Qxb6613901aAwayLeaf
import Derived.Laws.Externs
import Derived.Laws.Bits64
namespace Go.Proofs.Qxb6613901a
open Go Go.RowKit

set_option maxRecDepth 100000 in
theorem mul64_any (x y : Int) : ∃ h l : Int, (0 ≤ l ∧ l < 18446744073709551616) ∧ ∀ w, Calls Try.prog 88 #[.int .u64 x, .int .u64 y] w fun e w' => e = .returned (.tuple #[.int .u64 h, .int .u64 l]) ∧ w' = w := by
  apply Exists.intro
  apply Exists.intro
  apply And.intro
  rotate_left
  · intro w
    go_enter Try.func88, Try.ntmps88
    go_wp2
    go_ret2
    exact ⟨rfl, rfl⟩
  · rw [IntKind.wrap_u64]; omega

def addLo (x y c : Int) : Int := (((x.toNat + y.toNat + c.toNat) % 18446744073709551616 : Nat) : Int)
def addC (x y c : Int) : Int := (((x.toNat + y.toNat + c.toNat) / 18446744073709551616 : Nat) : Int)

theorem run_add (x y c : Int) (hc : c = 0 ∨ c = 1) (w : World) :
    (callFunc 89 #[.int .u64 x, .int .u64 y, .int .u64 c]).run Try.prog w = .ok (.value (.tuple #[.int .u64 (addLo x y c), .int .u64 (addC x y c)])) w := by
  rw [run_callFunc_extern Try.func89 (by kernel_rfl) (by kernel_rfl) (by kernel_rfl) (e := add64Entry) (by kernel_rfl)]
  rcases hc with rfl | rfl <;> rfl

def PcgAt (w : World) (P : Nat) (a b : Int) : Prop := w.heap[P]? = some (.cells #[.int .u64 a, .int .u64 b] 114 (0, 0))

set_option maxRecDepth 100000 in
theorem next_any (a b : Int) : ∃ h l : Int, ∀ w P, PcgAt w P a b → Calls Try.prog 87 #[.pointer (some ⟨P, 0, none⟩)] w fun e w' => e = .returned (.tuple #[.int .u64 h, .int .u64 l]) ∧ Keeps (fun k => k ≠ P) w w' := by
  obtain ⟨mh, ml, ⟨r0, r1⟩, hm⟩ := mul64_any b 4865540595714422341
  have HM := hide hm
  have q1 := run_add ml 1442695040888963407 0 (Or.inl rfl)
  have hc : addC ml 1442695040888963407 0 = 0 ∨ addC ml 1442695040888963407 0 = 1 := by unfold addC; omega
  have q2 := fun x => run_add x 6364136223846793005 (addC ml 1442695040888963407 0) hc
  generalize addC ml 1442695040888963407 0 = c at *
  generalize addLo ml 1442695040888963407 0 = l2 at *
  generalize hA : (fun x => addLo x 6364136223846793005 c) = A at *
  generalize hC : (fun x => addC x 6364136223846793005 c) = C at *
  have q3 : ∀ (x : Int) w, (callFunc 89 #[.int .u64 x, .int .u64 6364136223846793005, .int .u64 c]).run Try.prog w = .ok (.value (.tuple #[.int .u64 (A x), .int .u64 (C x)])) w := by
    intro x w; rw [q2 x w, ← hA, ← hC]
  clear q2 hc hm r0 r1 hA hC
  apply Exists.intro
  apply Exists.intro
  intro w P hp
  have c0 : w.cell? ⟨P, 0, none⟩ = some (.int .u64 a) := blk_cell hp 0
  have c1 : w.cell? ⟨P, 1, none⟩ = some (.int .u64 b) := blk_cell hp 1
  have f0 : w.frozen? ⟨P, 0, none⟩ = false := blk_frozen hp 0
  have f1 : w.frozen? ⟨P, 1, none⟩ = false := blk_frozen hp 1
  have HP := hide hp
  clear hp
  go_enter Try.func87, Try.ntmps87
  go_wp2_with (go_at_call 88; refine (HM.out _).mono ?_; rintro e w' ⟨rfl, hw⟩; obtain rfl := hw.symm)
  go_quiet (fail)
  go_wp2_with fail
  go_ret2
  exact ⟨rfl, (((Keeps.refl _ w).drewN nq).setCell (by simp) _).setCell (by simp) _⟩

set_option maxRecDepth 100000 in
theorem pcg_any (a b : Int) : ∃ c : Int, ∀ w P, PcgAt w P a b → Calls Try.prog 86 #[.pointer (some ⟨P, 0, none⟩)] w fun e w' => e = .returned (.int .u64 c) ∧ Keeps (fun k => k ≠ P) w w' := by
  obtain ⟨h, l, hn⟩ := next_any a b
  have HN := hide hn
  clear hn
  apply Exists.intro
  intro w P hp
  have HP := hide hp
  clear hp
  go_enter Try.func86, Try.ntmps86
  go_wp2_with (go_at_call 87; refine (HN.out _ _ HP.out).mono ?_; rintro e w' ⟨rfl, hk⟩)
  go_ret
  exact ⟨rfl, hk⟩

theorem nil_u64 (a : Addr) (w : World) : (nilAhead 259 97 (.pointer (some a)) "Uint64").run Try.prog w = .ok (some false) w := by kernel_rfl
theorem meth_u64 (a : Addr) (w : World) : (method 259 97 (.pointer (some a)) "Uint64").run Try.prog w = .ok (86, .pointer (some a)) w := by kernel_rfl

set_option maxRecDepth 100000 in
theorem u64_any (a b : Int) : ∃ c : Int, ∀ w R P, w.cell? ⟨R, 0, none⟩ = some (.iface 97 (.pointer (some ⟨P, 0, none⟩))) → PcgAt w P a b → Calls Try.prog 41 #[.pointer (some ⟨R, 0, none⟩)] w fun e w' => e = .returned (.int .u64 c) ∧ Keeps (fun k => k ≠ P) w w' := by
  obtain ⟨c, hn⟩ := pcg_any a b
  have HN := hide hn
  clear hn
  refine ⟨c, ?_⟩
  intro w R P hr hp
  have HP := hide hp
  have n1 := nil_u64 ⟨P, 0, none⟩
  have m1 := meth_u64 ⟨P, 0, none⟩
  clear hp
  go_enter Try.func41, Try.ntmps41
  go_wp2_with (go_at_call 86; refine (HN.out _ _ HP.out).mono ?_; rintro e w' ⟨rfl, hk⟩)
  go_ret
  exact ⟨rfl, hk⟩

theorem draw_run (c : Int) (h0 : 0 ≤ c) (h1 : c < 9007199254740992) (w : World) : (binOp .quo 74 (.float .f64 (floatOfInt .f64 c)) (.float .f64 4845873199050653696)).run Try.prog w = .ok (.float .f64 (Fl.R (c.natAbs * 2 ^ 1021))) w := by
  refine run_float_arith w .quo 74 .f64 _ _ _ ?_
  rw [ofInt_eq c h0 (by omega)]
  exact Fl.udiv_ok c.natAbs (by omega)

set_option maxRecDepth 100000 in
theorem f64_any (a b : Int) : ∃ c u : Nat, c < 9007199254740992 ∧ u = Fl.R (c * 2 ^ 1021) ∧ ∀ w R P, w.cell? ⟨R, 0, none⟩ = some (.iface 97 (.pointer (some ⟨P, 0, none⟩))) → PcgAt w P a b → Calls Try.prog 33 #[.pointer (some ⟨R, 0, none⟩)] w fun e w' => e = .returned (.float .f64 u) ∧ Keeps (fun k => k ≠ P) w w' := by
  obtain ⟨c, hn⟩ := u64_any a b
  have HN := hide hn
  have hr : 0 ≤ IntKind.u64.wrap (c * 2048) / 2048 ∧ IntKind.u64.wrap (c * 2048) / 2048 < 9007199254740992 := by rw [IntKind.wrap_u64]; omega
  have qd := draw_run _ hr.1 hr.2
  obtain ⟨u, hu⟩ : ∃ u, u = Fl.R ((IntKind.u64.wrap (c * 2048) / 2048).natAbs * 2 ^ 1021) := ⟨_, rfl⟩
  rw [← hu] at qd
  refine ⟨_, u, ?_, hu, ?_⟩
  · omega
  clear hn hr hu
  intro w R P hr hp
  have HP := hide (And.intro hr hp)
  clear hp hr
  go_enter Try.func33, Try.ntmps33
  go_wp2_with (go_at_call 41; refine (HN.out _ _ _ HP.out.1 HP.out.2).mono ?_; rintro e w' ⟨rfl, hk⟩)
  go_ret
  exact ⟨rfl, hk⟩

/-- A source of random numbers, as the law makes it. -/
def RandAt (w : World) (R : Nat) (a b : Int) (B : Nat) : Prop :=
  ∃ P, B ≤ P ∧ P < w.heap.size ∧ B ≤ R ∧ R < w.heap.size ∧ R ≠ P ∧ w.heap[R]? = some (.cells #[.iface 97 (.pointer (some ⟨P, 0, none⟩))] 112 (0, 0)) ∧ PcgAt w P a b

set_option maxRecDepth 100000 in
theorem newRand_any (a b : Int) (w : World) : Calls Try.prog 32 #[.int .u64 a, .int .u64 b] w fun e w' => ∃ R, e = .returned (.pointer (some ⟨R, 0, none⟩)) ∧ RandAt w' R a b w.heap.size ∧ Below w.heap.size w w' := by
  go_enter Try.func32, Try.ntmps32
  go_wp2
  go_ret
  refine ⟨_, rfl, ⟨w.heap.size, Nat.le_refl _, by simp; omega, by simp, by simp, by simp, ?_, blk_alloc (heap_alloc_new w _) _⟩, ((Below.refl _ w).alloc (Nat.le_refl _) _).alloc (by simp) _⟩
  have := heap_alloc_new (w.alloc (.cells #[.int .u64 a, .int .u64 b] 114)) (.cells #[.iface 97 (.pointer (some ⟨w.heap.size, 0, none⟩))] 112 (0, 0))
  simpa using this

end Go.Proofs.Qxb6613901a
