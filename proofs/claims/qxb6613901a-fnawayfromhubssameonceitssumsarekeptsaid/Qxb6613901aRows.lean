/-
  No cell of these rows narrows 'for every input' (looked for: loops, veiled, ifaces, maps, wideKeys, modest, calm, conditions, laid).
  DERIVED. THE GIVEN ROWS OF THIS SEAT. 6 by the template 'for every input the law returns true; each argument reads behind the call as it read before'; 0 by the template 'total and deterministic' (their statements: Qxb6613901aTotals.lean).
  GIVEN WITH THE SEED: the statements are not yours to turn. If you find one false, say at which input.
  Laid BY PROGRAM, IN A SANDBOX (cutbox-rows.mjs): the forced cells as the released guide's own fill.sh prints them over the translation 4200aae8982943d0… (all of the seat's roots in one cut). By AI agents, Wed Nov 11 2026. No macro, syntax, notation, axiom, sorry.
-/
import Derived.Test.Qxb6613901aChecked
import GoSem.Claim
import GoSem.ClaimJoined
import GoSem.ClaimMapViews
import Derived.JoinedTies
import Derived.KernelRfl
namespace Go.Proofs.Qxb6613901a
/- THE CELL 'sum', in the pinned program and in every row, IS THE sha256 OF THE DUMP (.gsa) THAT Qxb6613901aProg.lean LOADS. Nothing in Lean hashes anything: it is a label: what it is worth is what the hold of that sum in a sandbox is worth. -/
noncomputable def Try.pinned : Pinned := { name := "qxb6613901a", sum := "4200aae8982943d012246c3449d9fbaba9d7ee75ffccf5a348a913fd01de63bf", checked := Try.checked }
namespace Rows
def none {H : Type} : Left H := { results := [], args := [] }

/-- 'zzlaws_internal_protocol_b1.FnRejoinBacksOffByDoubling': WHATEVER THE INPUT: true; the input reads as it did. -/
def fnRejoinBacksOffByDoublingSpec : ChangeSpec := { name := "fnRejoinBacksOffByDoubling", fn := fun _ => fun
  | [d1, d2, d3, d4, d5, d6] => { results := [.lit (.bool true)], args := [d1, d2, d3, d4, d5, d6] }
  | _ => none }
def fnRejoinBacksOffByDoublingRow : OpenClaim := { program := "qxb6613901a", sum := "4200aae8982943d012246c3449d9fbaba9d7ee75ffccf5a348a913fd01de63bf", func := "example.com/holdfast/holdfast/zzlaws_internal_protocol_b1.FnRejoinBacksOffByDoubling", spec := "fnRejoinBacksOffByDoubling", unfollowed := true, recurses := true, apart := false }
def FnRejoinBacksOffByDoublingSaid : Prop := fnRejoinBacksOffByDoublingRow.holds Try.pinned (OpenSpec.ofChange fnRejoinBacksOffByDoublingSpec)

/-- ITS FALSE NEIGHBOUR: 'it returns false'. Refute it at one input. -/
def fnRejoinBacksOffByDoublingWrong : ChangeSpec := { name := "fnRejoinBacksOffByDoubling", fn := fun _ => fun
  | [d1, d2, d3, d4, d5, d6] => { results := [.lit (.bool false)], args := [d1, d2, d3, d4, d5, d6] }
  | _ => none }
def FnRejoinBacksOffByDoublingWrongFalsely : Prop := fnRejoinBacksOffByDoublingRow.holds Try.pinned (OpenSpec.ofChange fnRejoinBacksOffByDoublingWrong)

/-- 'zzlaws_internal_protocol_b1.FnRejoinAsksExactlyTheDueLostPeers': WHATEVER THE INPUT: true; the input reads as it did. -/
def fnRejoinAsksExactlyTheDueLostPeersSpec : ChangeSpec := { name := "fnRejoinAsksExactlyTheDueLostPeers", fn := fun _ => fun
  | [d1, d2, d3, d4, d5, d6, d7] => { results := [.lit (.bool true)], args := [d1, d2, d3, d4, d5, d6, d7] }
  | _ => none }
def fnRejoinAsksExactlyTheDueLostPeersRow : OpenClaim := { program := "qxb6613901a", sum := "4200aae8982943d012246c3449d9fbaba9d7ee75ffccf5a348a913fd01de63bf", func := "example.com/holdfast/holdfast/zzlaws_internal_protocol_b1.FnRejoinAsksExactlyTheDueLostPeers", spec := "fnRejoinAsksExactlyTheDueLostPeers", unfollowed := true, recurses := true, apart := false }
def FnRejoinAsksExactlyTheDueLostPeersSaid : Prop := fnRejoinAsksExactlyTheDueLostPeersRow.holds Try.pinned (OpenSpec.ofChange fnRejoinAsksExactlyTheDueLostPeersSpec)

/-- ITS FALSE NEIGHBOUR: 'it returns false'. Refute it at one input. -/
def fnRejoinAsksExactlyTheDueLostPeersWrong : ChangeSpec := { name := "fnRejoinAsksExactlyTheDueLostPeers", fn := fun _ => fun
  | [d1, d2, d3, d4, d5, d6, d7] => { results := [.lit (.bool false)], args := [d1, d2, d3, d4, d5, d6, d7] }
  | _ => none }
def FnRejoinAsksExactlyTheDueLostPeersWrongFalsely : Prop := fnRejoinAsksExactlyTheDueLostPeersRow.holds Try.pinned (OpenSpec.ofChange fnRejoinAsksExactlyTheDueLostPeersWrong)

/-- 'zzlaws_internal_protocol_b1.FnLinkFromServiceLinksEachNamedPeerUntilNone': WHATEVER THE INPUT: true; the input reads as it did. -/
def fnLinkFromServiceLinksEachNamedPeerUntilNoneSpec : ChangeSpec := { name := "fnLinkFromServiceLinksEachNamedPeerUntilNone", fn := fun _ => fun
  | [d1, d2, d3, d4] => { results := [.lit (.bool true)], args := [d1, d2, d3, d4] }
  | _ => none }
def fnLinkFromServiceLinksEachNamedPeerUntilNoneRow : OpenClaim := { program := "qxb6613901a", sum := "4200aae8982943d012246c3449d9fbaba9d7ee75ffccf5a348a913fd01de63bf", func := "example.com/holdfast/holdfast/zzlaws_internal_protocol_b1.FnLinkFromServiceLinksEachNamedPeerUntilNone", spec := "fnLinkFromServiceLinksEachNamedPeerUntilNone", unfollowed := true, recurses := true, apart := false }
def FnLinkFromServiceLinksEachNamedPeerUntilNoneSaid : Prop := fnLinkFromServiceLinksEachNamedPeerUntilNoneRow.holds Try.pinned (OpenSpec.ofChange fnLinkFromServiceLinksEachNamedPeerUntilNoneSpec)

/-- ITS FALSE NEIGHBOUR: 'it returns false'. Refute it at one input. -/
def fnLinkFromServiceLinksEachNamedPeerUntilNoneWrong : ChangeSpec := { name := "fnLinkFromServiceLinksEachNamedPeerUntilNone", fn := fun _ => fun
  | [d1, d2, d3, d4] => { results := [.lit (.bool false)], args := [d1, d2, d3, d4] }
  | _ => none }
def FnLinkFromServiceLinksEachNamedPeerUntilNoneWrongFalsely : Prop := fnLinkFromServiceLinksEachNamedPeerUntilNoneRow.holds Try.pinned (OpenSpec.ofChange fnLinkFromServiceLinksEachNamedPeerUntilNoneWrong)

/-- 'zzlaws_internal_protocol_b1.FnLeadsOnAnyCut': WHATEVER THE INPUT: true; the input reads as it did. -/
def fnLeadsOnAnyCutSpec : ChangeSpec := { name := "fnLeadsOnAnyCut", fn := fun _ => fun
  | [d1, d2, d3, d4] => { results := [.lit (.bool true)], args := [d1, d2, d3, d4] }
  | _ => none }
def fnLeadsOnAnyCutRow : OpenClaim := { program := "qxb6613901a", sum := "4200aae8982943d012246c3449d9fbaba9d7ee75ffccf5a348a913fd01de63bf", func := "example.com/holdfast/holdfast/zzlaws_internal_protocol_b1.FnLeadsOnAnyCut", spec := "fnLeadsOnAnyCut", unfollowed := true, recurses := true, apart := false }
def FnLeadsOnAnyCutSaid : Prop := fnLeadsOnAnyCutRow.holds Try.pinned (OpenSpec.ofChange fnLeadsOnAnyCutSpec)

/-- ITS FALSE NEIGHBOUR: 'it returns false'. Refute it at one input. -/
def fnLeadsOnAnyCutWrong : ChangeSpec := { name := "fnLeadsOnAnyCut", fn := fun _ => fun
  | [d1, d2, d3, d4] => { results := [.lit (.bool false)], args := [d1, d2, d3, d4] }
  | _ => none }
def FnLeadsOnAnyCutWrongFalsely : Prop := fnLeadsOnAnyCutRow.holds Try.pinned (OpenSpec.ofChange fnLeadsOnAnyCutWrong)

/-- 'zzlaws_internal_protocol_b1.FnLeadsOnAnsweringPeerIsNoLead': WHATEVER THE INPUT: true; the input reads as it did. -/
def fnLeadsOnAnsweringPeerIsNoLeadSpec : ChangeSpec := { name := "fnLeadsOnAnsweringPeerIsNoLead", fn := fun _ => fun
  | [d1, d2, d3, d4] => { results := [.lit (.bool true)], args := [d1, d2, d3, d4] }
  | _ => none }
def fnLeadsOnAnsweringPeerIsNoLeadRow : OpenClaim := { program := "qxb6613901a", sum := "4200aae8982943d012246c3449d9fbaba9d7ee75ffccf5a348a913fd01de63bf", func := "example.com/holdfast/holdfast/zzlaws_internal_protocol_b1.FnLeadsOnAnsweringPeerIsNoLead", spec := "fnLeadsOnAnsweringPeerIsNoLead", unfollowed := true, recurses := true, apart := false }
def FnLeadsOnAnsweringPeerIsNoLeadSaid : Prop := fnLeadsOnAnsweringPeerIsNoLeadRow.holds Try.pinned (OpenSpec.ofChange fnLeadsOnAnsweringPeerIsNoLeadSpec)

/-- ITS FALSE NEIGHBOUR: 'it returns false'. Refute it at one input. -/
def fnLeadsOnAnsweringPeerIsNoLeadWrong : ChangeSpec := { name := "fnLeadsOnAnsweringPeerIsNoLead", fn := fun _ => fun
  | [d1, d2, d3, d4] => { results := [.lit (.bool false)], args := [d1, d2, d3, d4] }
  | _ => none }
def FnLeadsOnAnsweringPeerIsNoLeadWrongFalsely : Prop := fnLeadsOnAnsweringPeerIsNoLeadRow.holds Try.pinned (OpenSpec.ofChange fnLeadsOnAnsweringPeerIsNoLeadWrong)

/-- 'zzlaws_internal_protocol_b1.FnAwayFromHubsSameOnceItsSumsAreKept': WHATEVER THE INPUT: true; the input reads as it did. -/
def fnAwayFromHubsSameOnceItsSumsAreKeptSpec : ChangeSpec := { name := "fnAwayFromHubsSameOnceItsSumsAreKept", fn := fun _ => fun
  | [d1, d2, d3, d4, d5] => { results := [.lit (.bool true)], args := [d1, d2, d3, d4, d5] }
  | _ => none }
def fnAwayFromHubsSameOnceItsSumsAreKeptRow : OpenClaim := { program := "qxb6613901a", sum := "4200aae8982943d012246c3449d9fbaba9d7ee75ffccf5a348a913fd01de63bf", func := "example.com/holdfast/holdfast/zzlaws_internal_protocol_b1.FnAwayFromHubsSameOnceItsSumsAreKept", spec := "fnAwayFromHubsSameOnceItsSumsAreKept", inPlace := ["math.Float64bits", "math.Float64frombits"], unfollowed := true, recurses := true, apart := false }
def FnAwayFromHubsSameOnceItsSumsAreKeptSaid : Prop := fnAwayFromHubsSameOnceItsSumsAreKeptRow.holds Try.pinned (OpenSpec.ofChange fnAwayFromHubsSameOnceItsSumsAreKeptSpec)

/-- ITS FALSE NEIGHBOUR: 'it returns false'. Refute it at one input. -/
def fnAwayFromHubsSameOnceItsSumsAreKeptWrong : ChangeSpec := { name := "fnAwayFromHubsSameOnceItsSumsAreKept", fn := fun _ => fun
  | [d1, d2, d3, d4, d5] => { results := [.lit (.bool false)], args := [d1, d2, d3, d4, d5] }
  | _ => none }
def FnAwayFromHubsSameOnceItsSumsAreKeptWrongFalsely : Prop := fnAwayFromHubsSameOnceItsSumsAreKeptRow.holds Try.pinned (OpenSpec.ofChange fnAwayFromHubsSameOnceItsSumsAreKeptWrong)

end Rows
end Go.Proofs.Qxb6613901a
