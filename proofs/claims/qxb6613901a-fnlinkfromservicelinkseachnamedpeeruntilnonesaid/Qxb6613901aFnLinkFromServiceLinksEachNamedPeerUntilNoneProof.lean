/- 'Rows.FnLinkFromServiceLinksEachNamedPeerUntilNoneSaid', proved: the frame after the guide's shells (slices handed back by Below.trod), the walk is serv_early and serv_main. -/
import Derived.Test.Qxb6613901aRows
import Derived.Test.Qxb6613901aServLaw
import Derived.Test.Qxb6613901aOpen
import Derived.WalkKit
import Derived.ProofKit
import Derived.OpenShut
import Derived.ShutString
namespace Go.Proofs.Qxb6613901a.fnLinkFromServiceLinksEachNamedPeerUntilNone
open Go.ChangeShapes Go.WideShapes Go.ChangeAt Go.RowKit
set_option linter.unusedVariables false

theorem own : ownKnob Try.prog.godebug = none := by kernel_rfl
theorem laidOut : laidOutB Try.prog = true := by kernel_rfl

theorem walk (id asks : Int) (a1 a2 : Option Addr) (n1 c1 n2 c2 : Nat) (zs : List Int) (bs : List Bool) (w : World)
    (e1 : zs.length = n1) (e2 : bs.length = n2) (m1 : n1 ≤ maxLen) (m2 : n2 ≤ maxLen)
    (hz : IntsAt w (.slice a1 n1 c1) zs) (hb : BoolsAt w (.slice a2 n2 c2) bs) (hzx : liesIn (fun k => k < w.heap.size) (.slice a1 n1 c1)) (hbx : liesIn (fun k => k < w.heap.size) (.slice a2 n2 c2))
    (hs : (Lit.int .i64 asks).wf = true) :
    Calls Try.prog 5 #[.int .i64 id, .slice a1 n1 c1, .slice a2 n2 c2, .int .i64 asks] w fun e w' => e = .returned (.bool true) ∧ Below w.heap.size w w' := by
  by_cases h : n1 + n2 ≤ 1048576 ∧ n1 ≤ 65536 ∧ n2 ≤ 65536
  · obtain ⟨g0, g1, g2⟩ := h
    have b2 := bounds_i64 hs
    subst e1 e2
    exact serv_main id asks _ _ zs bs w hz hb hzx hbx g0 g1 g2 (by omega)
  · exact serv_early id asks a1 a2 n1 n2 c1 c2 w m1 m2 h

set_option maxRecDepth 100000 in
theorem lifted (os : Os) (started : os.Started) (H : Type) (enc : TypeId × Value → H) :
    ReturnsInHanded {} Try.checked os 5 .any (Rows.fnLinkFromServiceLinksEachNamedPeerUntilNoneSpec.pre6 enc Try.prog Try.f5 Rows.fnLinkFromServiceLinksEachNamedPeerUntilNoneRow.domain false) (Rows.fnLinkFromServiceLinksEachNamedPeerUntilNoneSpec.post enc Try.prog Try.f5 false true false false) := by
  refine returnsInHanded_of_change (C := Try.checked) own started (by kernel_rfl) Try.func5
    (ChangeSpec.witness6 (enc := enc) (C := Try.checked) false ⟨#[], #[.int .i64 0, .slice none 0 0, .slice none 0 0, .int .i64 0], []⟩ 8 (by kernel_rfl) (by kernel_rfl) (by kernel_rfl) (by kernel_rfl)) ?_
  intro W base args ds gs before hval0 hW hcnd _
  have hval : ∀ (j : Nat) t v, Try.f5.params[j]? = some t → args[j]? = some v → Value.okWide Try.prog W .any base t v := hval0
  have hW' := hW
  obtain ⟨p, q, hA0, hV, rfl, hfz, hnd⟩ := hW
  have hA : DataW.TrodAll enc Try.prog W 0 (fun _ => true) true Try.f5.params.toList args.toList ds p := hA0
  rw [Try.params5] at hA hval
  obtain ⟨v0, vs0, d0, ds0, p0, q0, hargs, rfl, rfl, h0, r0⟩ := trodAll_cons hA
  obtain ⟨v1, vs1, d1, ds1, p1, q1, rfl, rfl, rfl, h1, r1⟩ := trodAll_cons r0
  obtain ⟨v2, vs2, d2, ds2, p2, q2, rfl, rfl, rfl, h2, r2⟩ := trodAll_cons r1
  obtain ⟨v3, vs3, d3, ds3, p3, q3, rfl, rfl, rfl, h3, r3⟩ := trodAll_cons r2
  obtain ⟨rfl, rfl, rfl⟩ := trodAll_nil r3
  obtain rfl : args = #[v0, v1, v2, v3] := by cases args; simp_all
  obtain ⟨rfl, rfl⟩ := trodVars_none hV
  obtain ⟨a0, rfl, rfl, rfl, w0⟩ := open_int Try.underlying2 (hval 0 2 v0 rfl rfl) h0
  obtain ⟨a1, len1, cap1, rfl⟩ := okWide_slice Try.underlying24 (hval 1 24 v1 rfl rfl)
  have lt1 : ∀ x ∈ p1, x.block < W.heap.size := by obtain ⟨m, hm⟩ := h1; exact DataW.trod_lt m _ _ _ hm
  obtain ⟨zs, ez, mz, hz, hzx, -⟩ := ints_of Try.underlying24 Try.underlying2 (by kernel_rfl) h1
  obtain ⟨a2, len2, cap2, rfl⟩ := okWide_slice Try.underlying29 (hval 2 29 v2 rfl rfl)
  have lt2 : ∀ x ∈ p2, x.block < W.heap.size := by obtain ⟨m, hm⟩ := h2; exact DataW.trod_lt m _ _ _ hm
  obtain ⟨bs, eb, mb, hb, hbx⟩ := bools_of Try.underlying29 Try.underlying4 (by kernel_rfl) h2
  obtain ⟨a3, rfl, rfl, rfl, w3⟩ := open_int Try.underlying3 (hval 3 3 v3 rfl rfl) h3
  clear hA0 hval0
  refine (walk a0 a3 a1 a2 len1 cap1 len2 cap2 zs bs W ez eb mz mb hz hb hzx hbx w3).mono fun e W' ⟨he, bel⟩ => ?_
  subst he
  exact ⟨_, rfl, _, _, _, [], _, [], hW', trodAll_mk1 (shut_bool Try.underlying4 _), (trodAll_cons_mk (shut_int Try.underlying2 w0) (trodAll_cons_mk (Below.trod laidOut (by kernel_rfl) (of_decide_eq_true (by kernel_rfl)) h1 bel lt1) (trodAll_cons_mk (Below.trod laidOut (by kernel_rfl) (of_decide_eq_true (by kernel_rfl)) h2 bel lt2) (trodAll_cons_mk (shut_int Try.underlying3 w3) trodAll_mk0)))), rfl, bel.frame _, fun h => by cases h⟩

theorem over : Rows.fnLinkFromServiceLinksEachNamedPeerUntilNoneRow.holds Try.pinned (OpenSpec.ofChange Rows.fnLinkFromServiceLinksEachNamedPeerUntilNoneSpec) :=
  OpenClaim.holds_of_wide 5 Try.f5 rfl rfl rfl rfl rfl rfl rfl ⟨rfl, rfl, rfl, rfl, rfl⟩ rfl rfl rfl rfl rfl (by kernel_rfl) Try.func5 (by kernel_rfl)
    (of_decide_eq_true (by kernel_rfl)) (by unfold Func.isWrapper; first | (rw [if_pos (by decide +kernel)]; kernel_rfl) | (rw [if_neg (by decide +kernel)]; exact ⟨rfl, rfl⟩))
    (fun os started H enc _ => lifted os started H enc)

theorem proved : Rows.FnLinkFromServiceLinksEachNamedPeerUntilNoneSaid := over
#print axioms proved
end Go.Proofs.Qxb6613901a.fnLinkFromServiceLinksEachNamedPeerUntilNone
