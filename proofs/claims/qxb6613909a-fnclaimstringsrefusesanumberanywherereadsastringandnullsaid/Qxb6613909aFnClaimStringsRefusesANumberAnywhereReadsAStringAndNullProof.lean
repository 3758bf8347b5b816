/- 'Rows.FnClaimStringsRefusesANumberAnywhereReadsAStringAndNullSaid', proved: the frame after the guide's shells (what came in is handed back by Below.trod). -/
import Derived.Test.Qxb6613909aRows
import Derived.Test.Qxb6613909aNumLaw
import Derived.Test.Qxb6613909aOpen
import Derived.WalkKit
import Derived.ProofKit
import Derived.OpenShut
import Derived.ShutString
namespace Go.Proofs.Qxb6613909a.fnClaimStringsRefusesANumberAnywhereReadsAStringAndNull
open Go.ChangeShapes Go.WideShapes Go.ChangeAt Go.RowKit
set_option linter.unusedVariables false

theorem own : ownKnob Try.prog.godebug = none := by kernel_rfl
theorem laidOut : laidOutB Try.prog = true := by kernel_rfl

theorem walk (k : Int) (f : Nat) (t : ByteArray) (a : Option Addr) (n c : Nat) (ss : List ByteArray) (w : World) (hlm : ss.length ≤ maxLen) (hx : StrsAt w (.slice a n c) ss) (hs : ∀ s ∈ ss, s.size ≤ maxLen) (ht : t.size ≤ maxLen) (hnil : (Value.slice a n c) = .slice none 0 0 ∨ ∃ b n' c', (Value.slice a n c) = .slice (some b) n' c') :
    Calls Try.prog 5 #[.slice a n c, .int .i64 k, .float .f64 f, .string t] w fun e w' => e = .returned (.bool true) ∧ Below w.heap.size w w' := num_any k f t _ ss w hx hlm hs ht hnil

set_option maxRecDepth 100000 in
theorem lifted (os : Os) (started : os.Started) (H : Type) (enc : TypeId × Value → H) :
    ReturnsInHanded {} Try.checked os 5 .any (Rows.fnClaimStringsRefusesANumberAnywhereReadsAStringAndNullSpec.pre6 enc Try.prog Try.f5 Rows.fnClaimStringsRefusesANumberAnywhereReadsAStringAndNullRow.domain false) (Rows.fnClaimStringsRefusesANumberAnywhereReadsAStringAndNullSpec.post enc Try.prog Try.f5 false true false false) := by
  refine returnsInHanded_of_change (C := Try.checked) own started (by kernel_rfl) Try.func5
    (ChangeSpec.witness6 (enc := enc) (C := Try.checked) false ⟨#[], #[.slice none 0 0, .int .i64 0, .float .f64 0, .string ByteArray.empty], []⟩ 8 (by kernel_rfl) (by kernel_rfl) (by kernel_rfl) (by kernel_rfl)) ?_
  intro W base args ds gs before hval0 hW hcnd _
  have hval : ∀ (j : Nat) t v, Try.f5.params[j]? = some t → args[j]? = some v → Value.okWide Try.prog W .any base t v := hval0
  have hW' := hW
  obtain ⟨p, q, hA0, hV, rfl, hfz, hnd⟩ := hW
  have hA : DataW.TrodAll enc Try.prog W 0 (fun _ => true) true Try.f5.params.toList args.toList ds p := hA0
  rw [Try.params5] at hA hval
  obtain ⟨v0, vs0, d0, ds0, p0, q0, hargs, rfl, rfl, h0, r0⟩ := trodAll_cons hA
  obtain ⟨v1, vs1, d1, ds1, p1, q1, rfl, rfl, rfl, h1, r1⟩ := trodAll_cons r0
  obtain ⟨v2, vs2, d2, ds2, p2, q2, rfl, rfl, rfl, h2, r2⟩ := trodAll_cons r1
  obtain ⟨v3, vs3, d3, ds3, p3, q3, rfl, rfl, rfl, h3, r3⟩ := trodAll_cons r2
  obtain ⟨rfl, rfl, rfl⟩ := trodAll_nil r3
  obtain rfl : args = #[v0, v1, v2, v3] := by cases args; simp_all
  obtain ⟨rfl, rfl⟩ := trodVars_none hV
  obtain ⟨a0, len0, cap0, rfl⟩ := okWide_slice Try.underlying22 (hval 0 22 v0 rfl rfl)
  have lt0 : ∀ x ∈ p0, x.block < W.heap.size := by obtain ⟨m, hm⟩ := h0; exact DataW.trod_lt m _ _ _ hm
  obtain ⟨z0, m0, i0, x0, n0⟩ := strs_of Try.underlying22 Try.underlying9 (by kernel_rfl) h0
  obtain ⟨a1, rfl, rfl, rfl, w1⟩ := open_int Try.underlying3 (hval 1 3 v1 rfl rfl) h1
  obtain ⟨a2, rfl⟩ := okWide_float Try.underlying26 (hval 2 26 v2 rfl rfl)
  have lt2 : ∀ x ∈ p2, x.block < W.heap.size := by obtain ⟨m, hm⟩ := h2; exact DataW.trod_lt m _ _ _ hm
  obtain ⟨a3, rfl, rfl, rfl, w3⟩ := Go.ChangeMaps.open_string Try.underlying9 (hval 3 9 v3 rfl rfl) h3
  clear hA0 hval0
  refine (walk a1 a2 a3 a0 len0 cap0 z0 W m0 i0 x0 w3 n0).mono fun e W' ⟨he, bel⟩ => ?_
  subst he
  exact ⟨_, rfl, _, _, _, [], _, [], hW', trodAll_mk1 (shut_bool Try.underlying4 _), (trodAll_cons_mk (Below.trod laidOut (by kernel_rfl) (of_decide_eq_true (by kernel_rfl)) h0 bel lt0) (trodAll_cons_mk (shut_int Try.underlying3 w1) (trodAll_cons_mk (Below.trod laidOut (by kernel_rfl) (of_decide_eq_true (by kernel_rfl)) h2 bel lt2) (trodAll_cons_mk (Go.ChangeMaps.shut_string Try.underlying9 w3) trodAll_mk0)))), rfl, bel.frame _, fun h => by cases h⟩

theorem over : Rows.fnClaimStringsRefusesANumberAnywhereReadsAStringAndNullRow.holds Try.pinned (OpenSpec.ofChange Rows.fnClaimStringsRefusesANumberAnywhereReadsAStringAndNullSpec) :=
  OpenClaim.holds_of_wide 5 Try.f5 rfl rfl rfl rfl rfl rfl rfl ⟨rfl, rfl, rfl, rfl, rfl⟩ rfl rfl rfl rfl rfl (by kernel_rfl) Try.func5 (by kernel_rfl)
    (of_decide_eq_true (by kernel_rfl)) (by unfold Func.isWrapper; first | (rw [if_pos (by decide +kernel)]; kernel_rfl) | (rw [if_neg (by decide +kernel)]; exact ⟨rfl, rfl⟩))
    (fun os started H enc _ => lifted os started H enc)

theorem proved : Rows.FnClaimStringsRefusesANumberAnywhereReadsAStringAndNullSaid := over
#print axioms proved
end Go.Proofs.Qxb6613909a.fnClaimStringsRefusesANumberAnywhereReadsAStringAndNull
