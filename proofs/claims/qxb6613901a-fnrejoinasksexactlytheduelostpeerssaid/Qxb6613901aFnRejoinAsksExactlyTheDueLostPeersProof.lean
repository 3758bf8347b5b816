/- 'Rows.FnRejoinAsksExactlyTheDueLostPeersSaid', proved: the frame after the guide's shells (slices handed back by Below.trod), the walk is ask_early and ask_main. -/
import Derived.Test.Qxb6613901aRows
import Derived.Test.Qxb6613901aAskMain
import Derived.Test.Qxb6613901aOpen
import Derived.WalkKit
import Derived.ProofKit
import Derived.OpenShut
import Derived.ShutString
namespace Go.Proofs.Qxb6613901a.fnRejoinAsksExactlyTheDueLostPeers
open Go.ChangeShapes Go.WideShapes Go.ChangeAt Go.RowKit
set_option linter.unusedVariables false

theorem own : ownKnob Try.prog.godebug = none := by kernel_rfl
theorem laidOut : laidOutB Try.prog = true := by kernel_rfl

theorem walk (p step lnk mx : Int) (a1 a2 a3 : Option Addr) (n1 c1 n2 c2 n3 c3 : Nat) (js : List JP) (zs : List Int) (bs : List Bool) (w : World)
    (e1 : js.length = n1) (e2 : zs.length = n2) (e3 : bs.length = n3) (m1 : n1 ≤ maxLen) (m2 : n2 ≤ maxLen) (m3 : n3 ≤ maxLen)
    (hj : JoinsAt w (.slice a1 n1 c1) js) (hz : IntsAt w (.slice a2 n2 c2) zs) (hb : BoolsAt w (.slice a3 n3 c3) bs) (hzx : liesIn (fun k => k < w.heap.size) (.slice a2 n2 c2)) (hbx : liesIn (fun k => k < w.heap.size) (.slice a3 n3 c3))
    (hs : (Lit.int .i64 step).wf = true) :
    Calls Try.prog 4 #[.int .i64 p, .int .i64 step, .slice a1 n1 c1, .slice a2 n2 c2, .int .i64 lnk, .int .i64 mx, .slice a3 n3 c3] w fun e w' => e = .returned (.bool true) ∧ Below w.heap.size w w' := by
  by_cases h : n1 + n2 + n3 ≤ 1048576 ∧ n1 ≤ 4096 ∧ n2 ≤ 4096 ∧ n3 ≤ 65536 ∧ 32 * n1 + 8 * n2 + n3 ≤ 1048576 ∧ step ≤ 9223372036854775743
  · obtain ⟨g0, g1, g2, g3, g4, g5⟩ := h
    have b2 := bounds_i64 hs
    subst e1 e2 e3
    exact ask_main p step lnk mx _ _ _ js zs bs w hj hz hb hzx hbx g0 g1 g2 g3 g4 g5 (by omega)
  · exact ask_early p step lnk mx a1 a2 a3 n1 n2 n3 c1 c2 c3 w m1 m2 m3 h

set_option maxRecDepth 100000 in
theorem lifted (os : Os) (started : os.Started) (H : Type) (enc : TypeId × Value → H) :
    ReturnsInHanded {} Try.checked os 4 .any (Rows.fnRejoinAsksExactlyTheDueLostPeersSpec.pre6 enc Try.prog Try.f4 Rows.fnRejoinAsksExactlyTheDueLostPeersRow.domain false) (Rows.fnRejoinAsksExactlyTheDueLostPeersSpec.post enc Try.prog Try.f4 false true false false) := by
  refine returnsInHanded_of_change (C := Try.checked) own started (by kernel_rfl) Try.func4
    (ChangeSpec.witness6 (enc := enc) (C := Try.checked) false ⟨#[], #[.int .i64 0, .int .i64 0, .slice none 0 0, .slice none 0 0, .int .i64 0, .int .i64 0, .slice none 0 0], []⟩ 8 (by kernel_rfl) (by kernel_rfl) (by kernel_rfl) (by kernel_rfl)) ?_
  intro W base args ds gs before hval0 hW hcnd _
  have hval : ∀ (j : Nat) t v, Try.f4.params[j]? = some t → args[j]? = some v → Value.okWide Try.prog W .any base t v := hval0
  have hW' := hW
  obtain ⟨p, q, hA0, hV, rfl, hfz, hnd⟩ := hW
  have hA : DataW.TrodAll enc Try.prog W 0 (fun _ => true) true Try.f4.params.toList args.toList ds p := hA0
  rw [Try.params4] at hA hval
  obtain ⟨v0, vs0, d0, ds0, p0, q0, hargs, rfl, rfl, h0, r0⟩ := trodAll_cons hA
  obtain ⟨v1, vs1, d1, ds1, p1, q1, rfl, rfl, rfl, h1, r1⟩ := trodAll_cons r0
  obtain ⟨v2, vs2, d2, ds2, p2, q2, rfl, rfl, rfl, h2, r2⟩ := trodAll_cons r1
  obtain ⟨v3, vs3, d3, ds3, p3, q3, rfl, rfl, rfl, h3, r3⟩ := trodAll_cons r2
  obtain ⟨v4, vs4, d4, ds4, p4, q4, rfl, rfl, rfl, h4, r4⟩ := trodAll_cons r3
  obtain ⟨v5, vs5, d5, ds5, p5, q5, rfl, rfl, rfl, h5, r5⟩ := trodAll_cons r4
  obtain ⟨v6, vs6, d6, ds6, p6, q6, rfl, rfl, rfl, h6, r6⟩ := trodAll_cons r5
  obtain ⟨rfl, rfl, rfl⟩ := trodAll_nil r6
  obtain rfl : args = #[v0, v1, v2, v3, v4, v5, v6] := by cases args; simp_all
  obtain ⟨rfl, rfl⟩ := trodVars_none hV
  obtain ⟨a0, rfl, rfl, rfl, w0⟩ := open_int Try.underlying2 (hval 0 2 v0 rfl rfl) h0
  obtain ⟨a1, rfl, rfl, rfl, w1⟩ := open_int Try.underlying3 (hval 1 3 v1 rfl rfl) h1
  obtain ⟨a2, len2, cap2, rfl⟩ := okWide_slice Try.underlying44 (hval 2 44 v2 rfl rfl)
  have lt2 : ∀ x ∈ p2, x.block < W.heap.size := by obtain ⟨m, hm⟩ := h2; exact DataW.trod_lt m _ _ _ hm
  obtain ⟨js, ej, mj, hj⟩ := joins_of h2
  obtain ⟨a3, len3, cap3, rfl⟩ := okWide_slice Try.underlying24 (hval 3 24 v3 rfl rfl)
  have lt3 : ∀ x ∈ p3, x.block < W.heap.size := by obtain ⟨m, hm⟩ := h3; exact DataW.trod_lt m _ _ _ hm
  obtain ⟨zs, ez, mz, hz, hzx, -⟩ := ints_of Try.underlying24 Try.underlying2 (by kernel_rfl) h3
  obtain ⟨a4, rfl, rfl, rfl, w4⟩ := open_int Try.underlying3 (hval 4 3 v4 rfl rfl) h4
  obtain ⟨a5, rfl, rfl, rfl, w5⟩ := open_int Try.underlying3 (hval 5 3 v5 rfl rfl) h5
  obtain ⟨a6, len6, cap6, rfl⟩ := okWide_slice Try.underlying29 (hval 6 29 v6 rfl rfl)
  have lt6 : ∀ x ∈ p6, x.block < W.heap.size := by obtain ⟨m, hm⟩ := h6; exact DataW.trod_lt m _ _ _ hm
  obtain ⟨bs, eb, mb, hb, hbx⟩ := bools_of Try.underlying29 Try.underlying4 (by kernel_rfl) h6
  clear hA0 hval0
  refine (walk a0 a1 a4 a5 a2 a3 a6 len2 cap2 len3 cap3 len6 cap6 js zs bs W ej ez eb mj mz mb hj hz hb hzx hbx w1).mono fun e W' ⟨he, bel⟩ => ?_
  subst he
  exact ⟨_, rfl, _, _, _, [], _, [], hW', trodAll_mk1 (shut_bool Try.underlying4 _), (trodAll_cons_mk (shut_int Try.underlying2 w0) (trodAll_cons_mk (shut_int Try.underlying3 w1) (trodAll_cons_mk (Below.trod laidOut (by kernel_rfl) (of_decide_eq_true (by kernel_rfl)) h2 bel lt2) (trodAll_cons_mk (Below.trod laidOut (by kernel_rfl) (of_decide_eq_true (by kernel_rfl)) h3 bel lt3) (trodAll_cons_mk (shut_int Try.underlying3 w4) (trodAll_cons_mk (shut_int Try.underlying3 w5) (trodAll_cons_mk (Below.trod laidOut (by kernel_rfl) (of_decide_eq_true (by kernel_rfl)) h6 bel lt6) trodAll_mk0))))))), rfl, bel.frame _, fun h => by cases h⟩

theorem over : Rows.fnRejoinAsksExactlyTheDueLostPeersRow.holds Try.pinned (OpenSpec.ofChange Rows.fnRejoinAsksExactlyTheDueLostPeersSpec) :=
  OpenClaim.holds_of_wide 4 Try.f4 rfl rfl rfl rfl rfl rfl rfl ⟨rfl, rfl, rfl, rfl, rfl⟩ rfl rfl rfl rfl rfl (by kernel_rfl) Try.func4 (by kernel_rfl)
    (of_decide_eq_true (by kernel_rfl)) (by unfold Func.isWrapper; first | (rw [if_pos (by decide +kernel)]; kernel_rfl) | (rw [if_neg (by decide +kernel)]; exact ⟨rfl, rfl⟩))
    (fun os started H enc _ => lifted os started H enc)

theorem proved : Rows.FnRejoinAsksExactlyTheDueLostPeersSaid := over
#print axioms proved
end Go.Proofs.Qxb6613901a.fnRejoinAsksExactlyTheDueLostPeers
