/-
  THE WALK OF FnNextHeldIsTheKeptMessageNumberedNext (4).
-/
import Derived.Test.Qxb6604164aBytes
import Derived.Test.Qxb6604164aLeft
import Derived.Test.Qxb6604164aNext
namespace Go.Proofs.Qxb6604164a
open Go.RowKit

theorem nil_nil (w : World) : (binOp .eql 43 (.pointer none) (.pointer none)).run Try.prog w = .ok (.bool true) w := by
  have h := run_eql_pointer_nil (P := Try.prog) (w := w) 43 none (by kernel_rfl)
  simpa using h

set_option maxHeartbeats 1000000 in
theorem law4 (d p : Int) (a : Option Addr) (len cap : Nat) (V S Q T : Nat → Int) (PA : Nat → Option Addr) (PL PC : Nat → Nat) (w : World)
    (hM : Msgs w a len V S Q T PA PL PC) (hlen : len ≤ maxLen) (hPL : ∀ i, i < len → PL i ≤ maxLen) (hPay : ∀ i, i < len → Pay w (PA i) (PL i)) (hQ : ∀ i, i < len → 0 ≤ Q i ∧ Q i ≤ 18446744073709551615) :
    Calls Try.prog 4 #[.int .u64 d, .slice a len cap, .int .u64 p] w (Truly w) := by
  obtain ⟨t, ht0⟩ : ∃ t, IntKind.u64.wrap (d + 1) = t := ⟨_, rfl⟩
  have ht : Hid (IntKind.u64.wrap (d + 1) = t) := ht0
  clear ht0
  go_enter Try.func4, Try.ntmps4
  go_wp2_with fail
  refine (zz14 d p a len cap V S Q T PA PL PC _ hM hlen hPL).mono ?_
  rintro e w1 ⟨bb, rfl, rfl, hR⟩
  cases bb
  · go_wp2
    go_ret
    exact ⟨rfl, Below.refl _ _⟩
  have hPL' := hR rfl
  clear hR
  by_cases hbig : 65536 < len
  · have hb' : (65536 : Int) < (len : Int) := by omega
    go_wp2_with fail
    go_ret
    exact ⟨rfl, Below.refl _ _⟩
  have hb' : decide ((65536 : Int) < (len : Int)) = false := by simp; omega
  go_wp2_with fail
  refine (left15 _ a len cap V S Q T PA PL PC _ hM hlen hPL (by omega) (by omega)).mono ?_
  rintro e w1 ⟨r, rfl, rfl⟩
  by_cases hr : r < 0
  · go_wp2_with fail
    go_ret
    exact ⟨rfl, Below.refl _ _⟩
  have hr' : decide (r < 0) = false := by simpa using hr
  go_wp2_with fail
  refine (cons16 a len cap V S Q T PA PL PC _ hM hlen hQ).mono ?_
  rintro e w1 ⟨bb, rfl, ⟨n1, rfl⟩, hC⟩
  cases bb
  · go_wp2
    go_ret
    exact ⟨rfl, below_drewN (Below.refl _ _) _⟩
  have HC : Hid (∀ j, j < len → Q j = Q 0 + j) := run_on (hC rfl)
  clear hC
  have hbd : Below w.heap.size w (w.drewN n1) := below_drewN (Below.refl _ _) _
  go_wp2_with fail
  refine (data17 a len cap V S Q T PA PL PC _ (hM.below hbd) (by omega) hPL' (fun i hi => (hPay i hi).below hbd)).mono ?_
  rintro e w2 ⟨a1, B, rfl, hK, hb1⟩
  go_wp2_with fail
  refine (zznext18 d t p a1 len len S Q B _ ht (fun i hi => (hQ i hi).1) (by omega) hK).mono ?_
  rintro e w3 ⟨rfl, hb2⟩
  have hK2 := hK.below hb2
  have hbb : Below w.heap.size w w3 := (hbd.trans hb1).trans (hb2.mono hb1.size)
  clear hK hb1 hb2 hM hPL hPay hPL' hbd
  have ht' := ht.out
  clear ht
  have hnn := nil_nil w3
  by_cases hz : len = 0
  · subst hz
    have hn : nh t 0 Q B = none := by unfold nh; rw [if_neg (by omega)]
    rw [hn]
    clear hn hK2
    go_wp2
    go_loop [9, 10] (fun x i => i = .int .i64 0 ∧ x = .pointer none) (fun _ i => 0 - (intOf i).toNat)
    case atStart => exact ⟨rfl, rfl⟩
    case round =>
      obtain ⟨rfl, rfl⟩ := hrel
      go_wp2
      go_ret
      exact ⟨rfl, hbb⟩
  rcases hK2 with hK2 | ⟨g, rfl, hg, hp, hx⟩
  · exact absurd hK2 hz
  have hxx : Hid (∀ i, i < len → Box w3 (B i) (S i) (Q i)) := hx
  clear hx
  rcases nh_cases t len Q B with ⟨hn, hno⟩ | ⟨j, hjl, hj0, hqj, hn⟩
  · rw [hn]
    have hne : Hid (∀ k, k < len → Q k ≠ t) := fun k hk e => by
      have := HC.out k hk
      have e0 : (t - Q 0).toNat = k := by omega
      exact hno ⟨by omega, by omega, by omega, by rw [e0]; exact e⟩
    clear hn hno
    go_wp2
    go_loop [9, 10] (fun x i => ∃ k : Nat, k ≤ len ∧ i = .int .i64 k ∧ x = .pointer none) (fun _ i => len - (intOf i).toNat)
    case atStart => exact ⟨0, Nat.zero_le _, rfl, rfl⟩
    case round =>
      obtain ⟨k, hk, rfl, rfl⟩ := hrel
      by_cases hlt : k < len
      · have hki : (k : Int) < (len : Int) := by omega
        have hpk := hp k hlt
        have hqk := (hxx.out k hlt).c2
        have hnk : (Q k == t) = false := by rw [beq_eq_false_iff_ne]; exact hne.out k hlt
        go_wp2
        go_round
        case rel => exact ⟨k + 1, by omega, by go_num, rfl⟩
        case measure => simp [intOf]; omega
      · go_wp2
        go_ret
        exact ⟨rfl, hbb⟩
  · rw [hn]
    have hne : Hid (∀ k, k < j → Q k ≠ t) := fun k hk e => by
      have := HC.out k (by omega)
      omega
    have hqq : (Q j == t) = true := by simp [hqj]
    have hqj2 := (hxx.out j hjl).c2
    have heq := eql_box (hxx.out j hjl) (hxx.out j hjl)
    clear hn hj0 hqj
    go_wp2
    go_loop [10] (fun i => ∃ k : Nat, k ≤ j ∧ i = .int .i64 k) (fun i => len - (intOf i).toNat)
    case atStart => exact ⟨0, Nat.zero_le _, rfl⟩
    case round =>
      obtain ⟨k, hk, rfl⟩ := hrel
      have hki : (k : Int) < (len : Int) := by omega
      have hpk := hp k (by omega)
      by_cases hlt : k < j
      · have hqk := (hxx.out k (by omega)).c2
        have hnk : (Q k == t) = false := by rw [beq_eq_false_iff_ne]; exact hne.out k hlt
        go_wp2
        go_round
        case rel => exact ⟨k + 1, by omega, by go_num⟩
        case measure => simp [intOf]; omega
      · obtain rfl : k = j := by omega
        go_wp2
        go_ret
        exact ⟨rfl, hbb⟩

end Go.Proofs.Qxb6604164a
