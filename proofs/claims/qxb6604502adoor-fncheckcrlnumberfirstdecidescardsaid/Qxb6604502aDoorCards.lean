/-
  DERIVED. GIVEN WITH THE SEED: THE CARDS: each row of Qxb6604502aDoorRows.lean that lists a variable, with what it lists TIED to the program's text (the seventh form; the later family's looks); each row that meets fmt, with fmt's text TOLD by the authors' own Lean function (tested against real Go, not proved from fmt's source: count such statements apart). THE CARD IS WHAT COUNTS. Prove the row's statement (the work); the ties are given (Qxb6604502aDoorTie.lean); close each card by the builder's one call (the guide's Derived/Test/ToyasCard.lean, 'card_holds'). Laid BY PROGRAM, IN A SANDBOX (cutbox-door.mjs). By AI agents, Wed Nov 11 2026. No macro, syntax, notation, axiom, sorry.
-/
import Derived.Test.Qxb6604502aDoorRows
import GoSem.ClaimSeven
namespace Go.Proofs.Qxb6604502aDoor
namespace Rows

/-- THE TIED CARD OF 'zzlaws_profile_b1.FnCheckCRLNumberSpec'. -/
def fnCheckCRLNumberSpecCard : Claim7 := { stood := { row := fnCheckCRLNumberSpecRow, standIns := [], harness := (true, "40192b80da4070d0a47c54c7c73ae1a4120f06590f658bafa02128209a7ebf64"), looks := false }, kinds := [], alts := [], laidByText := true, laidKinds := [.widerDeep], laidTests := true, laidLooks := .later }
def FnCheckCRLNumberSpecCardSaid : Prop := Claim7.holds Tryd.pinned (.plain (OpenSpec.ofChange fnCheckCRLNumberSpecSpec)) fnCheckCRLNumberSpecCard

/-- THE TIED CARD OF 'zzlaws_profile_b1.FnCheckCRLNumberFirstDecides'. -/
def fnCheckCRLNumberFirstDecidesCard : Claim7 := { stood := { row := fnCheckCRLNumberFirstDecidesRow, standIns := [], harness := (true, "40192b80da4070d0a47c54c7c73ae1a4120f06590f658bafa02128209a7ebf64"), looks := false }, kinds := [], alts := [], laidByText := true, laidKinds := [.widerDeep], laidTests := true, laidLooks := .later }
def FnCheckCRLNumberFirstDecidesCardSaid : Prop := Claim7.holds Tryd.pinned (.plain (OpenSpec.ofChange fnCheckCRLNumberFirstDecidesSpec)) fnCheckCRLNumberFirstDecidesCard
end Rows
end Go.Proofs.Qxb6604502aDoor
