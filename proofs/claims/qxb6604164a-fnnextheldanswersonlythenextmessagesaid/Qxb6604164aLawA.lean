/-
  THE WALK OF FnNextHeldAnswersOnlyTheNextMessage (5).
-/
import Derived.Test.Qxb6604164aBytes
import Derived.Test.Qxb6604164aLeft
import Derived.Test.Qxb6604164aNext
namespace Go.Proofs.Qxb6604164a
open Go.RowKit

set_option maxHeartbeats 1000000 in
theorem law5 (d p : Int) (a : Option Addr) (len cap : Nat) (V S Q T : Nat → Int) (PA : Nat → Option Addr) (PL PC : Nat → Nat) (w : World)
    (hM : Msgs w a len V S Q T PA PL PC) (hlen : len ≤ maxLen) (hPL : ∀ i, i < len → PL i ≤ maxLen) (hPay : ∀ i, i < len → Pay w (PA i) (PL i)) (hQ : ∀ i, i < len → 0 ≤ Q i ∧ Q i ≤ 18446744073709551615) :
    Calls Try.prog 5 #[.int .u64 d, .slice a len cap, .int .u64 p] w (Truly w) := by
  obtain ⟨t, ht0⟩ : ∃ t, IntKind.u64.wrap (d + 1) = t := ⟨_, rfl⟩
  have ht : Hid (IntKind.u64.wrap (d + 1) = t) := ht0
  clear ht0
  go_enter Try.func5, Try.ntmps5
  go_wp2_with fail
  refine (zz19 d p a len cap V S Q T PA PL PC _ hM hlen hPL).mono ?_
  rintro e w1 ⟨bb, rfl, rfl, hR⟩
  cases bb
  · go_wp2
    go_ret
    exact ⟨rfl, Below.refl _ _⟩
  have hPL' := hR rfl
  clear hR
  by_cases hbig : 65536 < len
  · have hb' : (65536 : Int) < (len : Int) := by omega
    go_wp2_with fail
    go_ret
    exact ⟨rfl, Below.refl _ _⟩
  have hb' : decide ((65536 : Int) < (len : Int)) = false := by simp; omega
  go_wp2_with fail
  refine (left15 _ a len cap V S Q T PA PL PC _ hM hlen hPL (by omega) (by omega)).mono ?_
  rintro e w1 ⟨r, rfl, rfl⟩
  by_cases hr : r < 0
  · go_wp2_with fail
    go_ret
    exact ⟨rfl, Below.refl _ _⟩
  have hr' : decide (r < 0) = false := by simpa using hr
  go_wp2_with fail
  refine (data17 a len cap V S Q T PA PL PC _ hM (by omega) hPL' hPay).mono ?_
  rintro e w1 ⟨a1, B, rfl, hK, hb1⟩
  go_wp2_with fail
  refine (zznext18 d t p a1 len len S Q B _ ht (fun i hi => (hQ i hi).1) (by omega) hK).mono ?_
  rintro e w2 ⟨rfl, hb2⟩
  have hK2 := hK.below hb2
  have hbb : Below w.heap.size w w2 := hb1.trans (hb2.mono hb1.size)
  clear hK hb1 hb2 hM hPL hPay hPL'
  have ht' := ht.out
  clear ht
  by_cases hz : len = 0
  · subst hz
    have hn : nh t 0 Q B = none := by unfold nh; rw [if_neg (by omega)]
    rw [hn]
    clear hn hK2
    go_wp2
    go_ret
    exact ⟨rfl, hbb⟩
  rcases hK2 with hK2 | ⟨g, rfl, hg, hp, hx⟩
  · exact absurd hK2 hz
  have hl0 : (0 : Int) < (len : Int) := by omega
  have hp0 := hp 0 (by omega)
  have hq0 := (hx 0 (by omega)).c2
  rcases nh_cases t len Q B with ⟨hn, hno⟩ | ⟨j, hjl, hj0, hqj, hn⟩
  · rw [hn]
    have hne : (Q 0 == t) = false := by
      rw [beq_eq_false_iff_ne]
      intro e
      have e0 : (t - Q 0).toNat = 0 := by omega
      exact hno ⟨by omega, by omega, by omega, by rw [e0]; exact e⟩
    clear hn hno hp hx
    go_wp2
    go_ret
    exact ⟨rfl, hbb⟩
  · rw [hn]
    have HN := hn
    clear hn HN
    have hqq : (Q j != t) = false := by simp [hqj]
    have hq2 := (hx j hjl).c2
    have hxx : Hid (∀ i, i < len → Box w2 (B i) (S i) (Q i)) := hx
    have HJ : Hid (t - Q 0 = (j : Int)) := hj0
    have HQ : Hid (Q j = t) := hqj
    clear hj0 hqj hx
    by_cases he : Q 0 = t
    · have hj : j = 0 := by have := HJ.out; omega
      subst hj
      have he' : (Q 0 == t) = true := by simp [he]
      have heq := neq_box w2 (B 0)
      have heq2 := eql_box (hxx.out 0 (by omega)) (hxx.out 0 (by omega))
      clear he
      go_wp2
      go_loop [9] (fun i => i = .int .i64 0) (fun i => 0 - (intOf i).toNat)
      case atStart => exact rfl
      case round =>
        obtain rfl := hrel
        go_wp2
        go_ret
        exact ⟨rfl, hbb⟩
    · have he' : (Q 0 == t) = false := by simp [he]
      go_wp2
      go_loop [9] (fun i => ∃ k : Nat, k ≤ j ∧ i = .int .i64 k) (fun i => len - (intOf i).toNat)
      case atStart => exact ⟨0, Nat.zero_le _, rfl⟩
      case round =>
        obtain ⟨k, hk, rfl⟩ := hrel
        have hki : (k : Int) < (len : Int) := by omega
        have hpk := hp k (by omega)
        have heq2 := eql_box (hxx.out k (by omega)) (hxx.out j (by omega))
        by_cases hkj : B k = B j
        · have hd : (B k == B j) = true := by simp [hkj]
          clear hkj
          go_wp2
          go_ret
          exact ⟨rfl, hbb⟩
        · have hd : (B k == B j) = false := by simp [hkj]
          have hk' : k < j := by
            rcases Nat.lt_or_ge k j with h | h
            · exact h
            · exact absurd (congrArg B (show k = j by omega)) hkj
          clear hkj
          go_wp2
          go_round
          case rel => exact ⟨k + 1, by omega, by go_num⟩
          case measure => simp [intOf]; omega

end Go.Proofs.Qxb6604164a
