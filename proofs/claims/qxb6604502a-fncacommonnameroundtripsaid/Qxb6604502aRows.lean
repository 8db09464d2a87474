/-
  No cell of these rows narrows 'for every input' (looked for: loops, veiled, ifaces, maps, wideKeys, modest, calm, conditions, laid).
  DERIVED. THE GIVEN ROWS OF THIS SEAT. 2 by the template 'for every input the law returns true; each argument reads behind the call as it read before'; 0 by the template 'total and deterministic' (their statements: Qxb6604502aTotals.lean).
  GIVEN WITH THE SEED: the statements are not yours to turn. If you find one false, say at which input.
  Laid BY PROGRAM, IN A SANDBOX (cutbox-rows.mjs): the forced cells as the released guide's own fill.sh prints them over the translation a12135f6f9b5525f… (all of the seat's roots in one cut). By AI agents, Wed Nov 11 2026. No macro, syntax, notation, axiom, sorry.
-/
import Derived.Test.Qxb6604502aChecked
import GoSem.Claim
import GoSem.ClaimJoined
import GoSem.ClaimMapViews
import Derived.JoinedTies
import Derived.KernelRfl
namespace Go.Proofs.Qxb6604502a
/- THE CELL 'sum', in the pinned program and in every row, IS THE sha256 OF THE DUMP (.gsa) THAT Qxb6604502aProg.lean LOADS. Nothing in Lean hashes anything: it is a label: what it is worth is what the hold of that sum in a sandbox is worth. -/
noncomputable def Try.pinned : Pinned := { name := "qxb6604502a", sum := "a12135f6f9b5525f42bcf289e46425c1cd73695a951a70f374dc0d568c43e026", checked := Try.checked }
namespace Rows
def none {H : Type} : Left H := { results := [], args := [] }

/-- 'zzlaws_profile_b1.FnCaCommonNameRoundTrip': WHATEVER THE INPUT: true; the input reads as it did. -/
def fnCaCommonNameRoundTripSpec : ChangeSpec := { name := "fnCaCommonNameRoundTrip", fn := fun _ => fun
  | [d1, d2] => { results := [.lit (.bool true)], args := [d1, d2] }
  | _ => none }
def fnCaCommonNameRoundTripRow : OpenClaim := { program := "qxb6604502a", sum := "a12135f6f9b5525f42bcf289e46425c1cd73695a951a70f374dc0d568c43e026", func := "example.com/vouchline/vouchline/zzlaws_profile_b1.FnCaCommonNameRoundTrip", spec := "fnCaCommonNameRoundTrip", apart := false }
def FnCaCommonNameRoundTripSaid : Prop := fnCaCommonNameRoundTripRow.holds Try.pinned (OpenSpec.ofChange fnCaCommonNameRoundTripSpec)

/-- ITS FALSE NEIGHBOUR: 'it returns false'. Refute it at one input. -/
def fnCaCommonNameRoundTripWrong : ChangeSpec := { name := "fnCaCommonNameRoundTrip", fn := fun _ => fun
  | [d1, d2] => { results := [.lit (.bool false)], args := [d1, d2] }
  | _ => none }
def FnCaCommonNameRoundTripWrongFalsely : Prop := fnCaCommonNameRoundTripRow.holds Try.pinned (OpenSpec.ofChange fnCaCommonNameRoundTripWrong)

/-- 'zzlaws_profile_b1.FnCaCommonNameInjective': WHATEVER THE INPUT: true; the input reads as it did. -/
def fnCaCommonNameInjectiveSpec : ChangeSpec := { name := "fnCaCommonNameInjective", fn := fun _ => fun
  | [d1, d2, d3, d4] => { results := [.lit (.bool true)], args := [d1, d2, d3, d4] }
  | _ => none }
def fnCaCommonNameInjectiveRow : OpenClaim := { program := "qxb6604502a", sum := "a12135f6f9b5525f42bcf289e46425c1cd73695a951a70f374dc0d568c43e026", func := "example.com/vouchline/vouchline/zzlaws_profile_b1.FnCaCommonNameInjective", spec := "fnCaCommonNameInjective", apart := false }
def FnCaCommonNameInjectiveSaid : Prop := fnCaCommonNameInjectiveRow.holds Try.pinned (OpenSpec.ofChange fnCaCommonNameInjectiveSpec)

/-- ITS FALSE NEIGHBOUR: 'it returns false'. Refute it at one input. -/
def fnCaCommonNameInjectiveWrong : ChangeSpec := { name := "fnCaCommonNameInjective", fn := fun _ => fun
  | [d1, d2, d3, d4] => { results := [.lit (.bool false)], args := [d1, d2, d3, d4] }
  | _ => none }
def FnCaCommonNameInjectiveWrongFalsely : Prop := fnCaCommonNameInjectiveRow.holds Try.pinned (OpenSpec.ofChange fnCaCommonNameInjectiveWrong)

end Rows
end Go.Proofs.Qxb6604502a
