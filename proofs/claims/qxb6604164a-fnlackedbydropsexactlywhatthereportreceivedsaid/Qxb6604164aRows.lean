/-
  No cell of these rows narrows 'for every input' (looked for: loops, veiled, ifaces, maps, wideKeys, modest, calm, conditions, laid).
  DERIVED. THE GIVEN ROWS OF THIS SEAT. 4 by the template 'for every input the law returns true; each argument reads behind the call as it read before'; 0 by the template 'total and deterministic' (their statements: Qxb6604164aTotals.lean).
  GIVEN WITH THE SEED: the statements are not yours to turn. If you find one false, say at which input.
  Laid BY PROGRAM, IN A SANDBOX (cutbox-rows.mjs): the forced cells as the released guide's own fill.sh prints them over the translation 9cd2f8557c060223… (all of the seat's roots in one cut). By AI agents, Wed Nov 11 2026. No macro, syntax, notation, axiom, sorry.
-/
import Derived.Test.Qxb6604164aChecked
import GoSem.Claim
import GoSem.ClaimJoined
import GoSem.ClaimMapViews
import Derived.JoinedTies
import Derived.KernelRfl
namespace Go.Proofs.Qxb6604164a
/- THE CELL 'sum', in the pinned program and in every row, IS THE sha256 OF THE DUMP (.gsa) THAT Qxb6604164aProg.lean LOADS. Nothing in Lean hashes anything: it is a label: what it is worth is what the hold of that sum in a sandbox is worth. -/
noncomputable def Try.pinned : Pinned := { name := "qxb6604164a", sum := "9cd2f8557c060223f968889b8f547a976e5367da65c8cbcf1a16bfb040156cb2", checked := Try.checked }
namespace Rows
def none {H : Type} : Left H := { results := [], args := [] }

/-- 'zzlaws_internal_group_b1.FnLackedByDropsExactlyWhatTheReportReceived': WHATEVER THE INPUT: true; the input reads as it did. -/
def fnLackedByDropsExactlyWhatTheReportReceivedSpec : ChangeSpec := { name := "fnLackedByDropsExactlyWhatTheReportReceived", fn := fun _ => fun
  | [d1, d2, d3, d4, d5, d6, d7, d8, d9, d10, d11] => { results := [.lit (.bool true)], args := [d1, d2, d3, d4, d5, d6, d7, d8, d9, d10, d11] }
  | _ => none }
def fnLackedByDropsExactlyWhatTheReportReceivedRow : OpenClaim := { program := "qxb6604164a", sum := "9cd2f8557c060223f968889b8f547a976e5367da65c8cbcf1a16bfb040156cb2", func := "example.com/quorate/quorate/zzlaws_internal_group_b1.FnLackedByDropsExactlyWhatTheReportReceived", spec := "fnLackedByDropsExactlyWhatTheReportReceived", unfollowed := true, recurses := true, apart := false }
def FnLackedByDropsExactlyWhatTheReportReceivedSaid : Prop := fnLackedByDropsExactlyWhatTheReportReceivedRow.holds Try.pinned (OpenSpec.ofChange fnLackedByDropsExactlyWhatTheReportReceivedSpec)

/-- ITS FALSE NEIGHBOUR: 'it returns false'. Refute it at one input. -/
def fnLackedByDropsExactlyWhatTheReportReceivedWrong : ChangeSpec := { name := "fnLackedByDropsExactlyWhatTheReportReceived", fn := fun _ => fun
  | [d1, d2, d3, d4, d5, d6, d7, d8, d9, d10, d11] => { results := [.lit (.bool false)], args := [d1, d2, d3, d4, d5, d6, d7, d8, d9, d10, d11] }
  | _ => none }
def FnLackedByDropsExactlyWhatTheReportReceivedWrongFalsely : Prop := fnLackedByDropsExactlyWhatTheReportReceivedRow.holds Try.pinned (OpenSpec.ofChange fnLackedByDropsExactlyWhatTheReportReceivedWrong)

/-- 'zzlaws_internal_group_b1.FnNextHeldIsTheKeptMessageNumberedNext': WHATEVER THE INPUT: true; the input reads as it did. -/
def fnNextHeldIsTheKeptMessageNumberedNextSpec : ChangeSpec := { name := "fnNextHeldIsTheKeptMessageNumberedNext", fn := fun _ => fun
  | [d1, d2, d3] => { results := [.lit (.bool true)], args := [d1, d2, d3] }
  | _ => none }
def fnNextHeldIsTheKeptMessageNumberedNextRow : OpenClaim := { program := "qxb6604164a", sum := "9cd2f8557c060223f968889b8f547a976e5367da65c8cbcf1a16bfb040156cb2", func := "example.com/quorate/quorate/zzlaws_internal_group_b1.FnNextHeldIsTheKeptMessageNumberedNext", spec := "fnNextHeldIsTheKeptMessageNumberedNext", apart := false }
def FnNextHeldIsTheKeptMessageNumberedNextSaid : Prop := fnNextHeldIsTheKeptMessageNumberedNextRow.holds Try.pinned (OpenSpec.ofChange fnNextHeldIsTheKeptMessageNumberedNextSpec)

/-- ITS FALSE NEIGHBOUR: 'it returns false'. Refute it at one input. -/
def fnNextHeldIsTheKeptMessageNumberedNextWrong : ChangeSpec := { name := "fnNextHeldIsTheKeptMessageNumberedNext", fn := fun _ => fun
  | [d1, d2, d3] => { results := [.lit (.bool false)], args := [d1, d2, d3] }
  | _ => none }
def FnNextHeldIsTheKeptMessageNumberedNextWrongFalsely : Prop := fnNextHeldIsTheKeptMessageNumberedNextRow.holds Try.pinned (OpenSpec.ofChange fnNextHeldIsTheKeptMessageNumberedNextWrong)

/-- 'zzlaws_internal_group_b1.FnNextHeldAnswersOnlyTheNextMessage': WHATEVER THE INPUT: true; the input reads as it did. -/
def fnNextHeldAnswersOnlyTheNextMessageSpec : ChangeSpec := { name := "fnNextHeldAnswersOnlyTheNextMessage", fn := fun _ => fun
  | [d1, d2, d3] => { results := [.lit (.bool true)], args := [d1, d2, d3] }
  | _ => none }
def fnNextHeldAnswersOnlyTheNextMessageRow : OpenClaim := { program := "qxb6604164a", sum := "9cd2f8557c060223f968889b8f547a976e5367da65c8cbcf1a16bfb040156cb2", func := "example.com/quorate/quorate/zzlaws_internal_group_b1.FnNextHeldAnswersOnlyTheNextMessage", spec := "fnNextHeldAnswersOnlyTheNextMessage", apart := false }
def FnNextHeldAnswersOnlyTheNextMessageSaid : Prop := fnNextHeldAnswersOnlyTheNextMessageRow.holds Try.pinned (OpenSpec.ofChange fnNextHeldAnswersOnlyTheNextMessageSpec)

/-- ITS FALSE NEIGHBOUR: 'it returns false'. Refute it at one input. -/
def fnNextHeldAnswersOnlyTheNextMessageWrong : ChangeSpec := { name := "fnNextHeldAnswersOnlyTheNextMessage", fn := fun _ => fun
  | [d1, d2, d3] => { results := [.lit (.bool false)], args := [d1, d2, d3] }
  | _ => none }
def FnNextHeldAnswersOnlyTheNextMessageWrongFalsely : Prop := fnNextHeldAnswersOnlyTheNextMessageRow.holds Try.pinned (OpenSpec.ofChange fnNextHeldAnswersOnlyTheNextMessageWrong)

/-- 'zzlaws_internal_group_b1.FnNextHeldDrainsTheRunPastDelivered': WHATEVER THE INPUT: true; the input reads as it did. -/
def fnNextHeldDrainsTheRunPastDeliveredSpec : ChangeSpec := { name := "fnNextHeldDrainsTheRunPastDelivered", fn := fun _ => fun
  | [d1, d2, d3] => { results := [.lit (.bool true)], args := [d1, d2, d3] }
  | _ => none }
def fnNextHeldDrainsTheRunPastDeliveredRow : OpenClaim := { program := "qxb6604164a", sum := "9cd2f8557c060223f968889b8f547a976e5367da65c8cbcf1a16bfb040156cb2", func := "example.com/quorate/quorate/zzlaws_internal_group_b1.FnNextHeldDrainsTheRunPastDelivered", spec := "fnNextHeldDrainsTheRunPastDelivered", apart := false }
def FnNextHeldDrainsTheRunPastDeliveredSaid : Prop := fnNextHeldDrainsTheRunPastDeliveredRow.holds Try.pinned (OpenSpec.ofChange fnNextHeldDrainsTheRunPastDeliveredSpec)

/-- ITS FALSE NEIGHBOUR: 'it returns false'. Refute it at one input. -/
def fnNextHeldDrainsTheRunPastDeliveredWrong : ChangeSpec := { name := "fnNextHeldDrainsTheRunPastDelivered", fn := fun _ => fun
  | [d1, d2, d3] => { results := [.lit (.bool false)], args := [d1, d2, d3] }
  | _ => none }
def FnNextHeldDrainsTheRunPastDeliveredWrongFalsely : Prop := fnNextHeldDrainsTheRunPastDeliveredRow.holds Try.pinned (OpenSpec.ofChange fnNextHeldDrainsTheRunPastDeliveredWrong)

end Rows
end Go.Proofs.Qxb6604164a
