/-
  No cell of these rows narrows 'for every input' (looked for: loops, veiled, ifaces, maps, wideKeys, modest, calm, conditions, laid).
  DERIVED. THE GIVEN ROWS OF THIS SEAT. 3 by the template 'for every input the law returns true; each argument reads behind the call as it read before'; 0 by the template 'total and deterministic' (their statements: Qxb6613909aTotals.lean).
  GIVEN WITH THE SEED: the statements are not yours to turn. If you find one false, say at which input.
  Laid BY PROGRAM, IN A SANDBOX (cutbox-rows.mjs): the forced cells as the released guide's own fill.sh prints them over the translation 26908b83345a0cf0… (all of the seat's roots in one cut). By AI agents, Wed Nov 11 2026. No macro, syntax, notation, axiom, sorry.
-/
import Derived.Test.Qxb6613909aChecked
import GoSem.Claim
import GoSem.ClaimJoined
import GoSem.ClaimMapViews
import Derived.JoinedTies
import Derived.KernelRfl
namespace Go.Proofs.Qxb6613909a
/- THE CELL 'sum', in the pinned program and in every row, IS THE sha256 OF THE DUMP (.gsa) THAT Qxb6613909aProg.lean LOADS. Nothing in Lean hashes anything: it is a label: what it is worth is what the hold of that sum in a sandbox is worth. -/
noncomputable def Try.pinned : Pinned := { name := "qxb6613909a", sum := "26908b83345a0cf0ffc0afcf5b5a73ea0403646eeea8ef003593f21807582bd0", checked := Try.checked }
namespace Rows
def none {H : Type} : Left H := { results := [], args := [] }

/-- 'zzlaws_oidc_b1.FnClaimStringsListReadsAsItsStringsAtAnyCut': WHATEVER THE INPUT: true; the input reads as it did. -/
def fnClaimStringsListReadsAsItsStringsAtAnyCutSpec : ChangeSpec := { name := "fnClaimStringsListReadsAsItsStringsAtAnyCut", fn := fun _ => fun
  | [d1, d2] => { results := [.lit (.bool true)], args := [d1, d2] }
  | _ => none }
def fnClaimStringsListReadsAsItsStringsAtAnyCutRow : OpenClaim := { program := "qxb6613909a", sum := "26908b83345a0cf0ffc0afcf5b5a73ea0403646eeea8ef003593f21807582bd0", func := "example.com/tesserid/tesserid/zzlaws_oidc_b1.FnClaimStringsListReadsAsItsStringsAtAnyCut", spec := "fnClaimStringsListReadsAsItsStringsAtAnyCut", apart := false }
def FnClaimStringsListReadsAsItsStringsAtAnyCutSaid : Prop := fnClaimStringsListReadsAsItsStringsAtAnyCutRow.holds Try.pinned (OpenSpec.ofChange fnClaimStringsListReadsAsItsStringsAtAnyCutSpec)

/-- ITS FALSE NEIGHBOUR: 'it returns false'. Refute it at one input. -/
def fnClaimStringsListReadsAsItsStringsAtAnyCutWrong : ChangeSpec := { name := "fnClaimStringsListReadsAsItsStringsAtAnyCut", fn := fun _ => fun
  | [d1, d2] => { results := [.lit (.bool false)], args := [d1, d2] }
  | _ => none }
def FnClaimStringsListReadsAsItsStringsAtAnyCutWrongFalsely : Prop := fnClaimStringsListReadsAsItsStringsAtAnyCutRow.holds Try.pinned (OpenSpec.ofChange fnClaimStringsListReadsAsItsStringsAtAnyCutWrong)

/-- 'zzlaws_oidc_b1.FnShownErrorIsSeesThroughToItsOwnErrorOnly': WHATEVER THE INPUT: true; the input reads as it did. -/
def fnShownErrorIsSeesThroughToItsOwnErrorOnlySpec : ChangeSpec := { name := "fnShownErrorIsSeesThroughToItsOwnErrorOnly", fn := fun _ => fun
  | [d1, d2, d3, d4] => { results := [.lit (.bool true)], args := [d1, d2, d3, d4] }
  | _ => none }
def fnShownErrorIsSeesThroughToItsOwnErrorOnlyRow : OpenClaim := { program := "qxb6613909a", sum := "26908b83345a0cf0ffc0afcf5b5a73ea0403646eeea8ef003593f21807582bd0", func := "example.com/tesserid/tesserid/zzlaws_oidc_b1.FnShownErrorIsSeesThroughToItsOwnErrorOnly", spec := "fnShownErrorIsSeesThroughToItsOwnErrorOnly", inPlace := ["internal/reflectlite.TypeOf"], unfollowed := true, recurses := true, apart := false }
def FnShownErrorIsSeesThroughToItsOwnErrorOnlySaid : Prop := fnShownErrorIsSeesThroughToItsOwnErrorOnlyRow.holds Try.pinned (OpenSpec.ofChange fnShownErrorIsSeesThroughToItsOwnErrorOnlySpec)

/-- ITS FALSE NEIGHBOUR: 'it returns false'. Refute it at one input. -/
def fnShownErrorIsSeesThroughToItsOwnErrorOnlyWrong : ChangeSpec := { name := "fnShownErrorIsSeesThroughToItsOwnErrorOnly", fn := fun _ => fun
  | [d1, d2, d3, d4] => { results := [.lit (.bool false)], args := [d1, d2, d3, d4] }
  | _ => none }
def FnShownErrorIsSeesThroughToItsOwnErrorOnlyWrongFalsely : Prop := fnShownErrorIsSeesThroughToItsOwnErrorOnlyRow.holds Try.pinned (OpenSpec.ofChange fnShownErrorIsSeesThroughToItsOwnErrorOnlyWrong)

/-- 'zzlaws_oidc_b1.FnClaimStringsRefusesANumberAnywhereReadsAStringAndNull': WHATEVER THE INPUT: true; the input reads as it did. -/
def fnClaimStringsRefusesANumberAnywhereReadsAStringAndNullSpec : ChangeSpec := { name := "fnClaimStringsRefusesANumberAnywhereReadsAStringAndNull", fn := fun _ => fun
  | [d1, d2, d3, d4] => { results := [.lit (.bool true)], args := [d1, d2, d3, d4] }
  | _ => none }
def fnClaimStringsRefusesANumberAnywhereReadsAStringAndNullRow : OpenClaim := { program := "qxb6613909a", sum := "26908b83345a0cf0ffc0afcf5b5a73ea0403646eeea8ef003593f21807582bd0", func := "example.com/tesserid/tesserid/zzlaws_oidc_b1.FnClaimStringsRefusesANumberAnywhereReadsAStringAndNull", spec := "fnClaimStringsRefusesANumberAnywhereReadsAStringAndNull", apart := false }
def FnClaimStringsRefusesANumberAnywhereReadsAStringAndNullSaid : Prop := fnClaimStringsRefusesANumberAnywhereReadsAStringAndNullRow.holds Try.pinned (OpenSpec.ofChange fnClaimStringsRefusesANumberAnywhereReadsAStringAndNullSpec)

/-- ITS FALSE NEIGHBOUR: 'it returns false'. Refute it at one input. -/
def fnClaimStringsRefusesANumberAnywhereReadsAStringAndNullWrong : ChangeSpec := { name := "fnClaimStringsRefusesANumberAnywhereReadsAStringAndNull", fn := fun _ => fun
  | [d1, d2, d3, d4] => { results := [.lit (.bool false)], args := [d1, d2, d3, d4] }
  | _ => none }
def FnClaimStringsRefusesANumberAnywhereReadsAStringAndNullWrongFalsely : Prop := fnClaimStringsRefusesANumberAnywhereReadsAStringAndNullRow.holds Try.pinned (OpenSpec.ofChange fnClaimStringsRefusesANumberAnywhereReadsAStringAndNullWrong)

end Rows
end Go.Proofs.Qxb6613909a
