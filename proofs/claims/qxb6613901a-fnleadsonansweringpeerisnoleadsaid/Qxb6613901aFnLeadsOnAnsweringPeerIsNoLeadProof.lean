/- 'Rows.FnLeadsOnAnsweringPeerIsNoLeadSaid', proved: the frame after the guide's shells (what came in is handed back by Below.trod). -/
import Derived.Test.Qxb6613901aRows
import Derived.Test.Qxb6613901aNoLeadLaw
import Derived.Test.Qxb6613901aOpen
import Derived.WalkKit
import Derived.ProofKit
import Derived.OpenShut
import Derived.ShutString
namespace Go.Proofs.Qxb6613901a.fnLeadsOnAnsweringPeerIsNoLead
open Go.ChangeShapes Go.WideShapes Go.ChangeAt Go.RowKit
set_option linter.unusedVariables false

theorem own : ownKnob Try.prog.godebug = none := by kernel_rfl
theorem laidOut : laidOutB Try.prog = true := by kernel_rfl

theorem walk (self x : Int) (a1 a2 : Option Addr) (n1 c1 n2 c2 : Nat) (ids ls : List Int) (w : World)
    (e1 : ids.length = n1) (e2 : ls.length = n2) (m1 : n1 ≤ maxLen) (m2 : n2 ≤ maxLen) (hi : IntsAt w (.slice a1 n1 c1) ids) (hl : IntsAt w (.slice a2 n2 c2) ls) :
    Calls Try.prog 7 #[.slice a1 n1 c1, .int .i64 self, .slice a2 n2 c2, .int .i64 x] w fun e w' => e = .returned (.bool true) ∧ Below w.heap.size w w' := by
  subst e1 e2
  by_cases h : ids.length + ls.length ≤ 1048576 ∧ ids.length ≤ 4096 ∧ ls.length ≤ 4096 ∧ ascB ids = true
  · obtain ⟨g0, g1, g2, hs⟩ := h
    exact nolead_main self x _ _ ids ls w hi hl g0 g1 g2 hs
  · exact nolead_early self x _ _ ids ls w hi hl m1 m2 h

set_option maxRecDepth 100000 in
theorem lifted (os : Os) (started : os.Started) (H : Type) (enc : TypeId × Value → H) :
    ReturnsInHanded {} Try.checked os 7 .any (Rows.fnLeadsOnAnsweringPeerIsNoLeadSpec.pre6 enc Try.prog Try.f7 Rows.fnLeadsOnAnsweringPeerIsNoLeadRow.domain false) (Rows.fnLeadsOnAnsweringPeerIsNoLeadSpec.post enc Try.prog Try.f7 false true false false) := by
  refine returnsInHanded_of_change (C := Try.checked) own started (by kernel_rfl) Try.func7
    (ChangeSpec.witness6 (enc := enc) (C := Try.checked) false ⟨#[], #[.slice none 0 0, .int .i64 0, .slice none 0 0, .int .i64 0], []⟩ 8 (by kernel_rfl) (by kernel_rfl) (by kernel_rfl) (by kernel_rfl)) ?_
  intro W base args ds gs before hval0 hW hcnd _
  have hval : ∀ (j : Nat) t v, Try.f7.params[j]? = some t → args[j]? = some v → Value.okWide Try.prog W .any base t v := hval0
  have hW' := hW
  obtain ⟨p, q, hA0, hV, rfl, hfz, hnd⟩ := hW
  have hA : DataW.TrodAll enc Try.prog W 0 (fun _ => true) true Try.f7.params.toList args.toList ds p := hA0
  rw [Try.params7] at hA hval
  obtain ⟨v0, vs0, d0, ds0, p0, q0, hargs, rfl, rfl, h0, r0⟩ := trodAll_cons hA
  obtain ⟨v1, vs1, d1, ds1, p1, q1, rfl, rfl, rfl, h1, r1⟩ := trodAll_cons r0
  obtain ⟨v2, vs2, d2, ds2, p2, q2, rfl, rfl, rfl, h2, r2⟩ := trodAll_cons r1
  obtain ⟨v3, vs3, d3, ds3, p3, q3, rfl, rfl, rfl, h3, r3⟩ := trodAll_cons r2
  obtain ⟨rfl, rfl, rfl⟩ := trodAll_nil r3
  obtain rfl : args = #[v0, v1, v2, v3] := by cases args; simp_all
  obtain ⟨rfl, rfl⟩ := trodVars_none hV
  obtain ⟨a0, len0, cap0, rfl⟩ := okWide_slice Try.underlying24 (hval 0 24 v0 rfl rfl)
  have lt0 : ∀ x ∈ p0, x.block < W.heap.size := by obtain ⟨m, hm⟩ := h0; exact DataW.trod_lt m _ _ _ hm
  obtain ⟨z0, e0, m0, i0, x0, wf0⟩ := ints_of Try.underlying24 Try.underlying2 (by kernel_rfl) h0
  obtain ⟨a1, rfl, rfl, rfl, w1⟩ := open_int Try.underlying2 (hval 1 2 v1 rfl rfl) h1
  obtain ⟨a2, len2, cap2, rfl⟩ := okWide_slice Try.underlying24 (hval 2 24 v2 rfl rfl)
  have lt2 : ∀ x ∈ p2, x.block < W.heap.size := by obtain ⟨m, hm⟩ := h2; exact DataW.trod_lt m _ _ _ hm
  obtain ⟨z2, e2, m2, i2, x2, wf2⟩ := ints_of Try.underlying24 Try.underlying2 (by kernel_rfl) h2
  obtain ⟨a3, rfl, rfl, rfl, w3⟩ := open_int Try.underlying2 (hval 3 2 v3 rfl rfl) h3
  clear hA0 hval0
  refine (walk a1 a3 a0 a2 len0 cap0 len2 cap2 z0 z2 W e0 e2 m0 m2 i0 i2).mono fun e W' ⟨he, bel⟩ => ?_
  subst he
  exact ⟨_, rfl, _, _, _, [], _, [], hW', trodAll_mk1 (shut_bool Try.underlying4 _), (trodAll_cons_mk (Below.trod laidOut (by kernel_rfl) (of_decide_eq_true (by kernel_rfl)) h0 bel lt0) (trodAll_cons_mk (shut_int Try.underlying2 w1) (trodAll_cons_mk (Below.trod laidOut (by kernel_rfl) (of_decide_eq_true (by kernel_rfl)) h2 bel lt2) (trodAll_cons_mk (shut_int Try.underlying2 w3) trodAll_mk0)))), rfl, bel.frame _, fun h => by cases h⟩

theorem over : Rows.fnLeadsOnAnsweringPeerIsNoLeadRow.holds Try.pinned (OpenSpec.ofChange Rows.fnLeadsOnAnsweringPeerIsNoLeadSpec) :=
  OpenClaim.holds_of_wide 7 Try.f7 rfl rfl rfl rfl rfl rfl rfl ⟨rfl, rfl, rfl, rfl, rfl⟩ rfl rfl rfl rfl rfl (by kernel_rfl) Try.func7 (by kernel_rfl)
    (of_decide_eq_true (by kernel_rfl)) (by unfold Func.isWrapper; first | (rw [if_pos (by decide +kernel)]; kernel_rfl) | (rw [if_neg (by decide +kernel)]; exact ⟨rfl, rfl⟩))
    (fun os started H enc _ => lifted os started H enc)

theorem proved : Rows.FnLeadsOnAnsweringPeerIsNoLeadSaid := over
#print axioms proved
end Go.Proofs.Qxb6613901a.fnLeadsOnAnsweringPeerIsNoLead
