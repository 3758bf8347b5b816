/- 'Rows.FnAwayFromHubsSameOnceItsSumsAreKeptSaid', proved: the frame after the guide's shells (what came in is handed back by Below.trod). -/
import Derived.Test.Qxb6613901aRows
import Derived.Test.Qxb6613901aAwayLaw
import Derived.Test.Qxb6613901aOpen
import Derived.WalkKit
import Derived.ProofKit
import Derived.OpenShut
import Derived.ShutString
namespace Go.Proofs.Qxb6613901a.fnAwayFromHubsSameOnceItsSumsAreKept
open Go.ChangeShapes Go.WideShapes Go.ChangeAt Go.RowKit
set_option linter.unusedVariables false

theorem own : ownKnob Try.prog.godebug = none := by kernel_rfl
theorem laidOut : laidOutB Try.prog = true := by kernel_rfl

theorem walk (s1 s2 t1 t2 : Int) (a : Option Addr) (n c : Nat) (ds : List Int) (w : World) (e0 : ds.length = n) (m0 : n ≤ maxLen) (hv : IntsAt w (.slice a n c) ds) (hwf : ∀ d ∈ ds, (Lit.int .i64 d).wf = true) :
    Calls Try.prog 8 #[.slice a n c, .int .u64 s1, .int .u64 s2, .int .u64 t1, .int .u64 t2] w fun e w' => e = .returned (.bool true) ∧ Below w.heap.size w w' := by
  subst e0
  refine away_main s1 s2 t1 t2 _ ds w hv m0 fun d hd => ?_
  have := hwf d hd
  simp [Lit.wf, IntKind.min, IntKind.max] at this
  have h2 := this.2
  simp [IntKind.bits, IntKind.signed] at h2
  omega

set_option maxRecDepth 100000 in
theorem lifted (os : Os) (started : os.Started) (H : Type) (enc : TypeId × Value → H) :
    ReturnsInHanded {} Try.checked os 8 .any (Rows.fnAwayFromHubsSameOnceItsSumsAreKeptSpec.pre6 enc Try.prog Try.f8 Rows.fnAwayFromHubsSameOnceItsSumsAreKeptRow.domain false) (Rows.fnAwayFromHubsSameOnceItsSumsAreKeptSpec.post enc Try.prog Try.f8 false true false false) := by
  refine returnsInHanded_of_change (C := Try.checked) own started (by kernel_rfl) Try.func8
    (ChangeSpec.witness6 (enc := enc) (C := Try.checked) false ⟨#[], #[.slice none 0 0, .int .u64 0, .int .u64 0, .int .u64 0, .int .u64 0], []⟩ 8 (by kernel_rfl) (by kernel_rfl) (by kernel_rfl) (by kernel_rfl)) ?_
  intro W base args ds gs before hval0 hW hcnd _
  have hval : ∀ (j : Nat) t v, Try.f8.params[j]? = some t → args[j]? = some v → Value.okWide Try.prog W .any base t v := hval0
  have hW' := hW
  obtain ⟨p, q, hA0, hV, rfl, hfz, hnd⟩ := hW
  have hA : DataW.TrodAll enc Try.prog W 0 (fun _ => true) true Try.f8.params.toList args.toList ds p := hA0
  rw [Try.params8] at hA hval
  obtain ⟨v0, vs0, d0, ds0, p0, q0, hargs, rfl, rfl, h0, r0⟩ := trodAll_cons hA
  obtain ⟨v1, vs1, d1, ds1, p1, q1, rfl, rfl, rfl, h1, r1⟩ := trodAll_cons r0
  obtain ⟨v2, vs2, d2, ds2, p2, q2, rfl, rfl, rfl, h2, r2⟩ := trodAll_cons r1
  obtain ⟨v3, vs3, d3, ds3, p3, q3, rfl, rfl, rfl, h3, r3⟩ := trodAll_cons r2
  obtain ⟨v4, vs4, d4, ds4, p4, q4, rfl, rfl, rfl, h4, r4⟩ := trodAll_cons r3
  obtain ⟨rfl, rfl, rfl⟩ := trodAll_nil r4
  obtain rfl : args = #[v0, v1, v2, v3, v4] := by cases args; simp_all
  obtain ⟨rfl, rfl⟩ := trodVars_none hV
  obtain ⟨a0, len0, cap0, rfl⟩ := okWide_slice Try.underlying30 (hval 0 30 v0 rfl rfl)
  have lt0 : ∀ x ∈ p0, x.block < W.heap.size := by obtain ⟨m, hm⟩ := h0; exact DataW.trod_lt m _ _ _ hm
  obtain ⟨z0, e0, m0, i0, x0, wf0⟩ := ints_of Try.underlying30 Try.underlying3 (by kernel_rfl) h0
  obtain ⟨a1, rfl, rfl, rfl, w1⟩ := open_int Try.underlying66 (hval 1 66 v1 rfl rfl) h1
  obtain ⟨a2, rfl, rfl, rfl, w2⟩ := open_int Try.underlying66 (hval 2 66 v2 rfl rfl) h2
  obtain ⟨a3, rfl, rfl, rfl, w3⟩ := open_int Try.underlying66 (hval 3 66 v3 rfl rfl) h3
  obtain ⟨a4, rfl, rfl, rfl, w4⟩ := open_int Try.underlying66 (hval 4 66 v4 rfl rfl) h4
  clear hA0 hval0
  refine (walk a1 a2 a3 a4 a0 len0 cap0 z0 W e0 m0 i0 wf0).mono fun e W' ⟨he, bel⟩ => ?_
  subst he
  exact ⟨_, rfl, _, _, _, [], _, [], hW', trodAll_mk1 (shut_bool Try.underlying4 _), (trodAll_cons_mk (Below.trod laidOut (by kernel_rfl) (of_decide_eq_true (by kernel_rfl)) h0 bel lt0) (trodAll_cons_mk (shut_int Try.underlying66 w1) (trodAll_cons_mk (shut_int Try.underlying66 w2) (trodAll_cons_mk (shut_int Try.underlying66 w3) (trodAll_cons_mk (shut_int Try.underlying66 w4) trodAll_mk0))))), rfl, bel.frame _, fun h => by cases h⟩

theorem over : Rows.fnAwayFromHubsSameOnceItsSumsAreKeptRow.holds Try.pinned (OpenSpec.ofChange Rows.fnAwayFromHubsSameOnceItsSumsAreKeptSpec) :=
  OpenClaim.holds_of_wide 8 Try.f8 rfl rfl rfl rfl rfl rfl rfl ⟨rfl, rfl, rfl, rfl, rfl⟩ rfl rfl rfl rfl rfl (by kernel_rfl) Try.func8 (by kernel_rfl)
    (of_decide_eq_true (by kernel_rfl)) (by unfold Func.isWrapper; first | (rw [if_pos (by decide +kernel)]; kernel_rfl) | (rw [if_neg (by decide +kernel)]; exact ⟨rfl, rfl⟩))
    (fun os started H enc _ => lifted os started H enc)

theorem proved : Rows.FnAwayFromHubsSameOnceItsSumsAreKeptSaid := over
#print axioms proved
end Go.Proofs.Qxb6613901a.fnAwayFromHubsSameOnceItsSumsAreKept
