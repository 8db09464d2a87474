/-
  THE ROW OF 'FnCheckCRLNumberFirstDecides' (function 4), out of its walk, and its TIED CARD, by the builder's one call: the guide's frame at this function's number and types.
-/
import Derived.Test.Qxb6604502aDoorOpen
import Derived.Test.Qxb6604502aDoorLawF
import Derived.Test.Qxb6604502aDoorTie
import Derived.Test.Qxb6604502aDoorCards
import Derived.WalkKit
import Derived.ProofKit
import Derived.OpenShut
import Derived.ShutString
import Derived.ChangeOld
import Derived.Below
import Derived.LaidMore
import Derived.Stop.Joined
import Derived.SevenTiedAt
namespace Go.Proofs.Qxb6604502aDoor.fnCheckCRLNumberFirstDecides
open Go.ChangeShapes Go.WideShapes Go.ChangeAt Go.RowKit
set_option linter.unusedVariables false

theorem own : ownKnob Tryd.prog.godebug = none := by kernel_rfl
theorem laidOut : laidOutB Tryd.prog = true := by kernel_rfl

/-- The door's own heap meets the condition. -/
theorem door_met (os : Os) (args : Array Value) : laidMetH Tryd.prog laidL ((World.doorLaid Tryd.prog 400 os).forCall (fun _ _ => 0) ⟨#[], args, []⟩).memory :=
  laidMetH_of_parts3 (fuel := 8) (laidMet_of_run' 8 (by kernel_rfl) (by kernel_rfl)) (by kernel_rfl) (by kernel_rfl)

set_option maxHeartbeats 1000000 in
set_option maxRecDepth 100000 in
theorem lifted (os : Os) (started : os.Started) (H : Type) (enc : TypeId × Value → H) :
    ReturnsInHanded {} Tryd.checked os 4 .any (fun w args => (Rows.fnCheckCRLNumberFirstDecidesSpec.pre enc Tryd.prog Tryd.f4 [] false w args ∧ laidMetH Tryd.prog laidL w) ∧ sizedMet enc Tryd.prog Tryd.f4 (OpenSpec.ofChange Rows.fnCheckCRLNumberFirstDecidesSpec) false w args)
      (Rows.fnCheckCRLNumberFirstDecidesSpec.post enc Tryd.prog Tryd.f4 false true false false) := by
  refine returnsInHanded_of_change_and (C := Tryd.checked) (X := fun w _ => laidMetH Tryd.prog laidL w) (fun _ _ _ hh h => h.of_heap hh) own started (by kernel_rfl) Tryd.func4
    (ChangeSpec.witness_shaped (enc := enc) (C := Tryd.checked) (os := os) (X := fun w _ => laidMetH Tryd.prog laidL w) false (World.doorLaid Tryd.prog 400 os) #[.slice none 0 0, .slice none 0 0, .bool false] 8 rfl (World.shaped_of_RefB (by kernel_rfl) (by kernel_rfl)) (by kernel_rfl) (by kernel_rfl) (by kernel_rfl) (door_met os _)) ?_
  intro W base args ds gs before hval0 hW _ _ hL _
  have hval : ∀ (j : Nat) t v, Tryd.f4.params[j]? = some t → args[j]? = some v → Value.okWide Tryd.prog W .any base t v := hval0
  have hW' := hW
  obtain ⟨p, q, hA0, hV0, rfl, hfz, hnd⟩ := hW
  have hA : DataW.TrodAll enc Tryd.prog W 0 (fun _ => true) true Tryd.f4.params.toList args.toList ds p := hA0
  have hV : DataW.TrodVars enc Tryd.prog W (fun _ => true) [vOid] gs q := hV0
  rw [Tryd.params4] at hA hval
  obtain ⟨v0, vs0, d0, ds0, p0, q0, hargs, rfl, rfl, h0, r0⟩ := trodAll_cons hA
  obtain ⟨v1, vs1, d1, ds1, p1, q1, rfl, rfl, rfl, h1, r1⟩ := trodAll_cons r0
  obtain ⟨v2, vs2, d2, ds2, p2, q2, rfl, rfl, rfl, h2, r2⟩ := trodAll_cons r1
  obtain ⟨rfl, rfl, rfl⟩ := trodAll_nil r2
  obtain rfl : args = #[v0, v1, v2] := by cases args; simp_all
  obtain ⟨g, t, cs, fuel, d, pv, rfl, hg, htt, hvar, hd, rfl⟩ := trodVars_one hV
  obtain rfl := Option.some.inj (gOid.symm.trans hg)
  obtain rfl := Option.some.inj (tOid.symm.trans htt)
  obtain ⟨o, oc, hO, hvo⟩ := oid_of_laid hL
  obtain rfl := Option.some.inj (hvar.symm.trans hvo)
  obtain ⟨a0, len0, cap0, rfl⟩ := okWide_slice Tryd.underlying22 (hval 0 22 v0 rfl rfl)
  obtain ⟨a1, len1, cap1, rfl⟩ := okWide_slice Tryd.underlying23 (hval 1 23 v1 rfl rfl)
  obtain ⟨z2, rfl, rfl, rfl⟩ := open_bool Tryd.underlying4 (hval 2 4 v2 rfl rfl) h2
  have lt0 : ∀ x ∈ p0, x.block < W.heap.size := by obtain ⟨m, hm⟩ := h0; exact DataW.trod_lt m _ _ _ hm
  have lt1 : ∀ x ∈ p1, x.block < W.heap.size := by obtain ⟨m, hm⟩ := h1; exact DataW.trod_lt m _ _ _ hm
  have ltv : ∀ x ∈ pv, x.block < W.heap.size := DataW.trod_lt fuel _ _ _ hd
  obtain ⟨IA, IL, IC, Z, hI, hn, hLn, hz0, hN⟩ : ∃ IA IL IC Z, Ids W a0 len0 IA IL IC Z ∧ len0 ≤ maxLen ∧ (∀ i, i < len0 → IL i ≤ maxLen) ∧ (a0 = none → len0 = 0) ∧ (∀ i, i < len0 → IA i = none → IL i = 0) := by
    obtain ⟨fuel, hf⟩ := h0
    exact open_ids (by simpa [Value.cells] using hf)
  obtain ⟨C, hB, hm, hb0⟩ : ∃ C, Bools W a1 len1 C ∧ len1 ≤ maxLen ∧ (a1 = none → len1 = 0) := by
    obtain ⟨fuel, hf⟩ := h1
    exact open_bools (by simpa [Value.cells] using hf)
  have kv : DataW.Trod enc Tryd.prog W 0 (fun _ => true) true 34 (.slice o 4 oc) d pv := ⟨fuel, by simpa [Value.cells] using hd⟩
  clear hA0 hval0 hV0
  refine (law4 a0 a1 o len0 cap0 len1 cap1 oc z2 IA IL IC Z C W hn hm hI hLn hz0 hN hB hb0 hO).mono fun e W' ⟨he, bel⟩ => ?_
  subst he
  have kv' := Below.trod laidOut (by kernel_rfl) (of_decide_eq_true (by kernel_rfl)) kv bel ltv
  obtain ⟨fuel', hd'⟩ := kv'
  have hv' : DataW.TrodVars enc Tryd.prog W' (fun b => decide (b < W.heap.size)) [vOid] [d] (MemPlace.row ⟨0, 0, none⟩ (#[Value.slice o 4 oc] : Array Value).size ++ pv) :=
    trodVars_mk1 gOid tOid (var?_below bel gOid hO.pos hvar) (by simpa [Value.cells] using hd')
  exact ⟨_, rfl, _, _, _, [], _, _, hW', trodAll_mk1 (shut_bool Tryd.underlying4 _), (trodAll_cons_mk (Below.trod laidOut (by kernel_rfl) (of_decide_eq_true (by kernel_rfl)) h0 bel lt0) (trodAll_cons_mk (Below.trod laidOut (by kernel_rfl) (of_decide_eq_true (by kernel_rfl)) h1 bel lt1) (trodAll_cons_mk (shut_bool Tryd.underlying4 z2) trodAll_mk0))),
    hv', bel.frame _, fun h => by cases h⟩

theorem over : Rows.FnCheckCRLNumberFirstDecidesSaid :=
  OpenClaim.holds_of_wide 4 Tryd.f4 rfl rfl rfl rfl rfl rfl rfl ⟨rfl, rfl, rfl, rfl, rfl⟩ rfl rfl rfl rfl rfl (by kernel_rfl) Tryd.func4 (by kernel_rfl)
    (of_decide_eq_true (by kernel_rfl)) (by unfold Func.isWrapper; first | (rw [if_pos (by decide +kernel)]; kernel_rfl) | (rw [if_neg (by decide +kernel)]; exact ⟨rfl, rfl⟩))
    (fun os started H enc _ => lifted os started H enc)

end Go.Proofs.Qxb6604502aDoor.fnCheckCRLNumberFirstDecides

namespace Go.Proofs.Qxb6604502aDoor
/-- THE CLAIM: the tied card -/
theorem checkCRLNumberFirstDecides_card : Rows.FnCheckCRLNumberFirstDecidesCardSaid :=
  Claim7.holds_tied_plain_at .later [] [.widerDeep] true (true, "40192b80da4070d0a47c54c7c73ae1a4120f06590f658bafa02128209a7ebf64") false
    fnCheckCRLNumberFirstDecides.over (fun _ h => by cases h) (by kernel_rfl) (fun _ h => by cases h) fnCheckCRLNumberFirstDecides_row_tie rfl ⟨rfl, rfl⟩ (by kernel_rfl) rfl
    (fun f fn hf hfn => by
      obtain rfl : f = 4 := Option.some.inj ((show Tryd.prog.funcNamed Rows.fnCheckCRLNumberFirstDecidesRow.func = some 4 by kernel_rfl).symm.trans hf) |>.symm
      obtain rfl : fn = Tryd.f4 := (Option.some.inj (Tryd.func4.symm.trans hfn)).symm
      exact ⟨by kernel_rfl, fun j t ht => by
        rw [Tryd.params4] at ht
        rcases j with _ | _ | _ | j
        · obtain rfl : t = 22 := by simpa using ht.symm
          exact (show Tryd.prog.wantsStandIn 22 = false by kernel_rfl)
        · obtain rfl : t = 23 := by simpa using ht.symm
          exact (show Tryd.prog.wantsStandIn 23 = false by kernel_rfl)
        · obtain rfl : t = 4 := by simpa using ht.symm
          exact (show Tryd.prog.wantsStandIn 4 = false by kernel_rfl)
        · simp at ht⟩)
    (by kernel_rfl)
end Go.Proofs.Qxb6604502aDoor
