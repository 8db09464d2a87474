/-
  NARROWER THAN 'FOR EVERY INPUT', by the rows' own cells (each row's printed sentence says how): FnCheckCRLNumberSpec: laid · FnCheckCRLNumberFirstDecides: laid.
  DERIVED. THE GIVEN ROWS OF THIS SEAT. 2 by the template 'for every input the law returns true; each argument reads behind the call as it read before'; 0 by the template 'total and deterministic' (their statements: Qxb6604502aDoorTotals.lean).
  GIVEN WITH THE SEED: the statements are not yours to turn. If you find one false, say at which input.
  Laid BY PROGRAM, IN A SANDBOX (cutbox-rows.mjs): the forced cells as the released guide's own fill.sh prints them over the translation 170843ce1c72c1a1… (all of the seat's roots in one cut). By AI agents, Wed Nov 11 2026. No macro, syntax, notation, axiom, sorry.
-/
import Derived.Test.Qxb6604502aDoorChecked
import GoSem.Claim
import GoSem.ClaimJoined
import GoSem.ClaimMapViews
import Derived.JoinedTies
import Derived.KernelRfl
namespace Go.Proofs.Qxb6604502aDoor
/- THE CELL 'sum', in the pinned program and in every row, IS THE sha256 OF THE DUMP (.gsa) THAT Qxb6604502aDoorProg.lean LOADS. Nothing in Lean hashes anything: it is a label: what it is worth is what the hold of that sum in a sandbox is worth. -/
noncomputable def Tryd.pinned : Pinned := { name := "qxb6604502adoor", sum := "170843ce1c72c1a11726767a74f4f01a8bb97a34e9c466f8b991061e7a8b45ea", checked := Tryd.checked }
namespace Rows
def none {H : Type} : Left H := { results := [], args := [] }

/- WHAT THE LISTED PACKAGE-LEVEL VARIABLES READ AS WHEN THE CALL BEGINS. Each datum BY PROGRAM (the guide's laid-datum.mjs) off the statement by which the dump's own 'gosem.cut.vars' lays the variable. In a bare row this is a premise. The card (Qxb6604502aDoorCards.lean) ties it to the program's text. -/
def laid_example_com_vouchline_vouchline_profile_oidCRLNumber {H : Type} : DataW H := .slice [.lit (.int .i64 2), .lit (.int .i64 5), .lit (.int .i64 29), .lit (.int .i64 20)] []

/-- 'zzlaws_profile_b1.FnCheckCRLNumberSpec': WHATEVER THE INPUT: true; the input reads as it did. -/
def fnCheckCRLNumberSpecSpec : ChangeSpec := { name := "fnCheckCRLNumberSpec", vars := ["example.com/vouchline/vouchline/profile.oidCRLNumber"], fn := fun _ => fun
  | [d1, d2, g1] => { results := [.lit (.bool true)], args := [d1, d2], vars := [g1] }
  | _ => none }
def fnCheckCRLNumberSpecRow : OpenClaim := { program := "qxb6604502adoor", sum := "170843ce1c72c1a11726767a74f4f01a8bb97a34e9c466f8b991061e7a8b45ea", func := "example.com/vouchline/vouchline/zzlaws_profile_b1.FnCheckCRLNumberSpec", spec := "fnCheckCRLNumberSpec", unfollowed := true, recurses := true, named := ["example.com/vouchline/vouchline/profile.oidCRLNumber"], apart := false, laid := [("example.com/vouchline/vouchline/profile.oidCRLNumber", laid_example_com_vouchline_vouchline_profile_oidCRLNumber)] }
def FnCheckCRLNumberSpecSaid : Prop := fnCheckCRLNumberSpecRow.holds Tryd.pinned (OpenSpec.ofChange fnCheckCRLNumberSpecSpec)

/-- ITS FALSE NEIGHBOUR: 'it returns false'. Refute it at one input. -/
def fnCheckCRLNumberSpecWrong : ChangeSpec := { name := "fnCheckCRLNumberSpec", vars := ["example.com/vouchline/vouchline/profile.oidCRLNumber"], fn := fun _ => fun
  | [d1, d2, g1] => { results := [.lit (.bool false)], args := [d1, d2], vars := [g1] }
  | _ => none }
def FnCheckCRLNumberSpecWrongFalsely : Prop := fnCheckCRLNumberSpecRow.holds Tryd.pinned (OpenSpec.ofChange fnCheckCRLNumberSpecWrong)

/-- 'zzlaws_profile_b1.FnCheckCRLNumberFirstDecides': WHATEVER THE INPUT: true; the input reads as it did. -/
def fnCheckCRLNumberFirstDecidesSpec : ChangeSpec := { name := "fnCheckCRLNumberFirstDecides", vars := ["example.com/vouchline/vouchline/profile.oidCRLNumber"], fn := fun _ => fun
  | [d1, d2, d3, g1] => { results := [.lit (.bool true)], args := [d1, d2, d3], vars := [g1] }
  | _ => none }
def fnCheckCRLNumberFirstDecidesRow : OpenClaim := { program := "qxb6604502adoor", sum := "170843ce1c72c1a11726767a74f4f01a8bb97a34e9c466f8b991061e7a8b45ea", func := "example.com/vouchline/vouchline/zzlaws_profile_b1.FnCheckCRLNumberFirstDecides", spec := "fnCheckCRLNumberFirstDecides", unfollowed := true, recurses := true, named := ["example.com/vouchline/vouchline/profile.oidCRLNumber"], apart := false, laid := [("example.com/vouchline/vouchline/profile.oidCRLNumber", laid_example_com_vouchline_vouchline_profile_oidCRLNumber)] }
def FnCheckCRLNumberFirstDecidesSaid : Prop := fnCheckCRLNumberFirstDecidesRow.holds Tryd.pinned (OpenSpec.ofChange fnCheckCRLNumberFirstDecidesSpec)

/-- ITS FALSE NEIGHBOUR: 'it returns false'. Refute it at one input. -/
def fnCheckCRLNumberFirstDecidesWrong : ChangeSpec := { name := "fnCheckCRLNumberFirstDecides", vars := ["example.com/vouchline/vouchline/profile.oidCRLNumber"], fn := fun _ => fun
  | [d1, d2, d3, g1] => { results := [.lit (.bool false)], args := [d1, d2, d3], vars := [g1] }
  | _ => none }
def FnCheckCRLNumberFirstDecidesWrongFalsely : Prop := fnCheckCRLNumberFirstDecidesRow.holds Tryd.pinned (OpenSpec.ofChange fnCheckCRLNumberFirstDecidesWrong)

end Rows
end Go.Proofs.Qxb6604502aDoor
