/-
  THE ROW OF 'FnLackedByDropsExactlyWhatTheReportReceived' (function 3), out of its walk: the guide's frame (howto/template/XProofs.lean) at this function's number and types.
-/
import Derived.Test.Qxb6604164aOpenD
import Derived.WalkKit
import Derived.ProofKit
import Derived.OpenShut
import Derived.ShutString
import Derived.ChangeOld
import Derived.Below
namespace Go.Proofs.Qxb6604164a.fnLackedByDropsExactlyWhatTheReportReceived
open Go.ChangeShapes Go.WideShapes Go.ChangeAt Go.RowKit
set_option linter.unusedVariables false

theorem own : ownKnob Try.prog.godebug = none := by kernel_rfl
theorem laidOut : laidOutB Try.prog = true := by kernel_rfl

set_option maxHeartbeats 1000000 in
set_option maxRecDepth 100000 in
theorem lifted (os : Os) (started : os.Started) (H : Type) (enc : TypeId × Value → H) :
    ReturnsInHanded {} Try.checked os 3 .any (Rows.fnLackedByDropsExactlyWhatTheReportReceivedSpec.pre6 enc Try.prog Try.f3 Rows.fnLackedByDropsExactlyWhatTheReportReceivedRow.domain false) (Rows.fnLackedByDropsExactlyWhatTheReportReceivedSpec.post enc Try.prog Try.f3 false true false false) := by
  refine returnsInHanded_of_change (C := Try.checked) own started (by kernel_rfl) Try.func3
    (ChangeSpec.witness6 (enc := enc) (C := Try.checked) false ⟨#[], #[.int .u64 0, .slice none 0 0, .slice none 0 0, .slice none 0 0, .slice none 0 0, .slice none 0 0, .slice none 0 0, .slice none 0 0, .bool false, .slice none 0 0, .slice none 0 0], []⟩ 8 (by kernel_rfl) (by kernel_rfl) (by kernel_rfl) (by kernel_rfl)) ?_
  intro W base args ds gs before hval0 hW hcnd _
  have hval : ∀ (j : Nat) t v, Try.f3.params[j]? = some t → args[j]? = some v → Value.okWide Try.prog W .any base t v := hval0
  have hW' := hW
  obtain ⟨p, q, hA0, hV, rfl, hfz, hnd⟩ := hW
  have hA : DataW.TrodAll enc Try.prog W 0 (fun _ => true) true Try.f3.params.toList args.toList ds p := hA0
  rw [Try.params3] at hA hval
  obtain ⟨v0, vs0, d0, ds0, p0, q0, hargs, rfl, rfl, h0, r0⟩ := trodAll_cons hA
  obtain ⟨v1, vs1, d1, ds1, p1, q1, rfl, rfl, rfl, h1, r1⟩ := trodAll_cons r0
  obtain ⟨v2, vs2, d2, ds2, p2, q2, rfl, rfl, rfl, h2, r2⟩ := trodAll_cons r1
  obtain ⟨v3, vs3, d3, ds3, p3, q3, rfl, rfl, rfl, h3, r3⟩ := trodAll_cons r2
  obtain ⟨v4, vs4, d4, ds4, p4, q4, rfl, rfl, rfl, h4, r4⟩ := trodAll_cons r3
  obtain ⟨v5, vs5, d5, ds5, p5, q5, rfl, rfl, rfl, h5, r5⟩ := trodAll_cons r4
  obtain ⟨v6, vs6, d6, ds6, p6, q6, rfl, rfl, rfl, h6, r6⟩ := trodAll_cons r5
  obtain ⟨v7, vs7, d7, ds7, p7, q7, rfl, rfl, rfl, h7, r7⟩ := trodAll_cons r6
  obtain ⟨v8, vs8, d8, ds8, p8, q8, rfl, rfl, rfl, h8, r8⟩ := trodAll_cons r7
  obtain ⟨v9, vs9, d9, ds9, p9, q9, rfl, rfl, rfl, h9, r9⟩ := trodAll_cons r8
  obtain ⟨v10, vs10, d10, ds10, p10, q10, rfl, rfl, rfl, h10, r10⟩ := trodAll_cons r9
  obtain ⟨rfl, rfl, rfl⟩ := trodAll_nil r10
  obtain rfl : args = #[v0, v1, v2, v3, v4, v5, v6, v7, v8, v9, v10] := by cases args; simp_all
  obtain ⟨rfl, rfl⟩ := trodVars_none hV
  obtain ⟨z0, rfl, rfl, rfl, w0⟩ := open_int Try.underlying22 (hval 0 22 v0 rfl rfl) h0
  obtain ⟨a1, len1, cap1, rfl⟩ := okWide_slice Try.underlying23 (hval 1 23 v1 rfl rfl)
  have lt1 : ∀ x ∈ p1, x.block < W.heap.size := by obtain ⟨m, hm⟩ := h1; exact DataW.trod_lt m _ _ _ hm
  obtain ⟨a2, len2, cap2, rfl⟩ := okWide_slice Try.underlying24 (hval 2 24 v2 rfl rfl)
  have lt2 : ∀ x ∈ p2, x.block < W.heap.size := by obtain ⟨m, hm⟩ := h2; exact DataW.trod_lt m _ _ _ hm
  obtain ⟨a3, len3, cap3, rfl⟩ := okWide_slice Try.underlying25 (hval 3 25 v3 rfl rfl)
  have lt3 : ∀ x ∈ p3, x.block < W.heap.size := by obtain ⟨m, hm⟩ := h3; exact DataW.trod_lt m _ _ _ hm
  obtain ⟨a4, len4, cap4, rfl⟩ := okWide_slice Try.underlying24 (hval 4 24 v4 rfl rfl)
  have lt4 : ∀ x ∈ p4, x.block < W.heap.size := by obtain ⟨m, hm⟩ := h4; exact DataW.trod_lt m _ _ _ hm
  obtain ⟨a5, len5, cap5, rfl⟩ := okWide_slice Try.underlying25 (hval 5 25 v5 rfl rfl)
  have lt5 : ∀ x ∈ p5, x.block < W.heap.size := by obtain ⟨m, hm⟩ := h5; exact DataW.trod_lt m _ _ _ hm
  obtain ⟨a6, len6, cap6, rfl⟩ := okWide_slice Try.underlying26 (hval 6 26 v6 rfl rfl)
  have lt6 : ∀ x ∈ p6, x.block < W.heap.size := by obtain ⟨m, hm⟩ := h6; exact DataW.trod_lt m _ _ _ hm
  obtain ⟨a7, len7, cap7, rfl⟩ := okWide_slice Try.underlying27 (hval 7 27 v7 rfl rfl)
  have lt7 : ∀ x ∈ p7, x.block < W.heap.size := by obtain ⟨m, hm⟩ := h7; exact DataW.trod_lt m _ _ _ hm
  obtain ⟨z8, rfl, rfl, rfl⟩ := open_bool Try.underlying4 (hval 8 4 v8 rfl rfl) h8
  obtain ⟨a9, len9, cap9, rfl⟩ := okWide_slice Try.underlying24 (hval 9 24 v9 rfl rfl)
  have lt9 : ∀ x ∈ p9, x.block < W.heap.size := by obtain ⟨m, hm⟩ := h9; exact DataW.trod_lt m _ _ _ hm
  obtain ⟨a10, len10, cap10, rfl⟩ := okWide_slice Try.underlying25 (hval 10 25 v10 rfl rfl)
  have lt10 : ∀ x ∈ p10, x.block < W.heap.size := by obtain ⟨m, hm⟩ := h10; exact DataW.trod_lt m _ _ _ hm
  obtain ⟨I, N, A, hP, b0, hAs⟩ : ∃ I N A, Peers W a1 len1 I N A ∧ len1 ≤ maxLen ∧ (∀ i, i < len1 → (A i).size ≤ maxLen) := by
    obtain ⟨fuel, hf⟩ := h1
    exact open_peers (by simpa [Value.cells] using hf)
  obtain ⟨K1, hi2, bb2, nn2⟩ : ∃ Z, Ints .u32 W a2 len2 Z ∧ len2 ≤ maxLen ∧ (a2 = none → len2 = 0) := by
    obtain ⟨fuel, hf⟩ := h2
    exact open_intsD Try.underlying24 Try.underlying46 Try.cells46 (by simpa [Value.cells] using hf)
  obtain ⟨V1, hi3, bb3, nn3⟩ : ∃ Z, Ints .u64 W a3 len3 Z ∧ len3 ≤ maxLen ∧ (a3 = none → len3 = 0) := by
    obtain ⟨fuel, hf⟩ := h3
    exact open_intsD Try.underlying25 Try.underlying22 Try.cells22 (by simpa [Value.cells] using hf)
  obtain ⟨K2, hi4, bb4, nn4⟩ : ∃ Z, Ints .u32 W a4 len4 Z ∧ len4 ≤ maxLen ∧ (a4 = none → len4 = 0) := by
    obtain ⟨fuel, hf⟩ := h4
    exact open_intsD Try.underlying24 Try.underlying46 Try.cells46 (by simpa [Value.cells] using hf)
  obtain ⟨V2, hi5, bb5, nn5⟩ : ∃ Z, Ints .u64 W a5 len5 Z ∧ len5 ≤ maxLen ∧ (a5 = none → len5 = 0) := by
    obtain ⟨fuel, hf⟩ := h5
    exact open_intsD Try.underlying25 Try.underlying22 Try.cells22 (by simpa [Value.cells] using hf)
  obtain ⟨K3, hi9, bb9, nn9⟩ : ∃ Z, Ints .u32 W a9 len9 Z ∧ len9 ≤ maxLen ∧ (a9 = none → len9 = 0) := by
    obtain ⟨fuel, hf⟩ := h9
    exact open_intsD Try.underlying24 Try.underlying46 Try.cells46 (by simpa [Value.cells] using hf)
  obtain ⟨V3, hi10, bb10, nn10⟩ : ∃ Z, Ints .u64 W a10 len10 Z ∧ len10 ≤ maxLen ∧ (a10 = none → len10 = 0) := by
    obtain ⟨fuel, hf⟩ := h10
    exact open_intsD Try.underlying25 Try.underlying22 Try.cells22 (by simpa [Value.cells] using hf)
  obtain ⟨OI, ON, hO, b6⟩ : ∃ I N, Runs W a6 len6 I N ∧ len6 ≤ maxLen := by
    obtain ⟨fuel, hf⟩ := h6
    exact open_runs (by simpa [Value.cells] using hf)
  obtain ⟨V, S, Q, T, PA, PL, PC, hM, hlen, hPL, hPay, hS⟩ : ∃ V S Q T PA PL PC, Msgs W a7 len7 V S Q T PA PL PC ∧ len7 ≤ maxLen ∧ (∀ i, i < len7 → PL i ≤ maxLen) ∧ (∀ i, i < len7 → Pay W (PA i) (PL i)) ∧ (∀ i, i < len7 → (Lit.int .u32 (S i)).wf = true) := by
    obtain ⟨fuel, hf⟩ := h7
    exact open_msgsD (by simpa [Value.cells] using hf)
  clear hA0 hval0
  refine (law3 z0 z8 a1 a2 a3 a4 a5 a6 a7 a9 a10 len1 cap1 len2 cap2 len3 cap3 len4 cap4 len5 cap5 len6 cap6 len7 cap7 len9 cap9 len10 cap10 I N A K1 V1 K2 V2 OI ON V S Q T PA PL PC K3 V3 W
    ⟨hP, hAs, hi2, hi3, hi4, hi5, hO, hM, hPL, hPay, hS, hi9, hi10, nn2, nn4, nn9, b0, bb2, bb3, bb4, bb5, b6, hlen, bb9, bb10⟩).mono fun e W' ⟨he, bel⟩ => ?_
  subst he
  exact ⟨_, rfl, _, _, _, [], _, [], hW', trodAll_mk1 (shut_bool Try.underlying4 _), (trodAll_cons_mk (shut_int Try.underlying22 w0) (trodAll_cons_mk (Below.trod laidOut (by kernel_rfl) (of_decide_eq_true (by kernel_rfl)) h1 bel lt1) (trodAll_cons_mk (Below.trod laidOut (by kernel_rfl) (of_decide_eq_true (by kernel_rfl)) h2 bel lt2) (trodAll_cons_mk (Below.trod laidOut (by kernel_rfl) (of_decide_eq_true (by kernel_rfl)) h3 bel lt3) (trodAll_cons_mk (Below.trod laidOut (by kernel_rfl) (of_decide_eq_true (by kernel_rfl)) h4 bel lt4) (trodAll_cons_mk (Below.trod laidOut (by kernel_rfl) (of_decide_eq_true (by kernel_rfl)) h5 bel lt5) (trodAll_cons_mk (Below.trod laidOut (by kernel_rfl) (of_decide_eq_true (by kernel_rfl)) h6 bel lt6) (trodAll_cons_mk (Below.trod laidOut (by kernel_rfl) (of_decide_eq_true (by kernel_rfl)) h7 bel lt7) (trodAll_cons_mk (shut_bool Try.underlying4 z8) (trodAll_cons_mk (Below.trod laidOut (by kernel_rfl) (of_decide_eq_true (by kernel_rfl)) h9 bel lt9) (trodAll_cons_mk (Below.trod laidOut (by kernel_rfl) (of_decide_eq_true (by kernel_rfl)) h10 bel lt10) trodAll_mk0))))))))))), rfl, bel.frame _, fun h => by cases h⟩

theorem over : Rows.fnLackedByDropsExactlyWhatTheReportReceivedRow.holds Try.pinned (OpenSpec.ofChange Rows.fnLackedByDropsExactlyWhatTheReportReceivedSpec) :=
  OpenClaim.holds_of_wide 3 Try.f3 rfl rfl rfl rfl rfl rfl rfl ⟨rfl, rfl, rfl, rfl, rfl⟩ rfl rfl rfl rfl rfl (by kernel_rfl) Try.func3 (by kernel_rfl)
    (of_decide_eq_true (by kernel_rfl)) (by unfold Func.isWrapper; first | (rw [if_pos (by decide +kernel)]; kernel_rfl) | (rw [if_neg (by decide +kernel)]; exact ⟨rfl, rfl⟩))
    (fun os started H enc _ => lifted os started H enc)

/-- THE STATEMENT -/
theorem proved : Rows.FnLackedByDropsExactlyWhatTheReportReceivedSaid := over
end Go.Proofs.Qxb6604164a.fnLackedByDropsExactlyWhatTheReportReceived

namespace Go.Proofs.Qxb6604164a
/-- THE CLAIM -/
theorem lackedByDrops_proved : Rows.FnLackedByDropsExactlyWhatTheReportReceivedSaid := fnLackedByDropsExactlyWhatTheReportReceived.proved
end Go.Proofs.Qxb6604164a
