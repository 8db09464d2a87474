/-
  THE WALKS OF lawDataLeft (15), lawConsecutive (16).
-/
import Derived.Test.Qxb6604164aBase
import Derived.Deep.QuietTactic
import Derived.BigQuiet
namespace Go.Proofs.Qxb6604164a
open Go.RowKit

set_option maxHeartbeats 400000 in
theorem left15_at (r : Int) (b off len cap : Nat) (V S Q T : Nat → Int) (PA : Nat → Option Addr) (PL PC : Nat → Nat) (w : World)
    (hM : MsgsAt w b off len V S Q T PA PL PC) (hlen : len ≤ maxLen) (hPL : ∀ i, i < len → PL i ≤ maxLen) (h0 : -1000000000 ≤ r) (h1 : r ≤ 1048576) :
    Calls Try.prog 15 #[.slice (some ⟨b, off, none⟩) len cap, .int .i64 r] w (Inty w) := by
  unfold maxLen at hlen hPL
  go_enter Try.func15, Try.ntmps15
  go_wp2
  go_loop [1, 5] (fun z i => ∃ k : Nat, ∃ n : Int, k ≤ len ∧ i = .int .i64 k ∧ z = .int .i64 n ∧ -1000000000 ≤ n ∧ n ≤ 1048576) (fun _ i => len - (intOf i).toNat)
  case atStart => exact ⟨0, r, Nat.zero_le _, rfl, rfl, by omega, by omega⟩
  case round =>
    obtain ⟨k, n, hk, rfl, rfl, hn0, hn1⟩ := hrel
    by_cases hlt : k < len
    · have hc := hM.c4 k hlt
      have hp := hPL k hlt
      by_cases hneg : n < 0
      · go_wp2
        go_ret
        exact Inty.mk rfl
      · have hd : decide (n < 0) = false := by simpa using hneg
        go_wp2
        · go_ret
          exact Inty.mk rfl
        · go_round
          case rel => exact ⟨k + 1, n - (56 + PL k), by omega, by go_num, by go_num, by omega, by omega⟩
          case measure => simp [intOf]; omega
    · go_wp2
      go_ret
      exact Inty.mk rfl

set_option maxHeartbeats 400000 in
theorem left15_zero (r : Int) (a : Option Addr) (cap : Nat) (w : World) :
    Calls Try.prog 15 #[.slice a 0 cap, .int .i64 r] w (Inty w) := by
  go_enter Try.func15, Try.ntmps15
  go_wp2
  go_loop [1, 5] (fun z i => i = .int .i64 0 ∧ z = .int .i64 r) (fun _ i => 0 - (intOf i).toNat)
  case atStart => exact ⟨rfl, rfl⟩
  case round =>
    obtain ⟨rfl, rfl⟩ := hrel
    go_wp2
    go_ret
    exact Inty.mk rfl

theorem left15 (r : Int) (a : Option Addr) (len cap : Nat) (V S Q T : Nat → Int) (PA : Nat → Option Addr) (PL PC : Nat → Nat) (w : World)
    (hM : Msgs w a len V S Q T PA PL PC) (hlen : len ≤ maxLen) (hPL : ∀ i, i < len → PL i ≤ maxLen) (h0 : -1000000000 ≤ r) (h1 : r ≤ 1048576) :
    Calls Try.prog 15 #[.slice a len cap, .int .i64 r] w (Inty w) := by
  rcases hM with rfl | ⟨b, off, rfl, _, hM⟩
  · exact left15_zero r a cap w
  · exact left15_at r b off len cap V S Q T PA PL PC w hM hlen hPL h0 h1

theorem seq_step {a c : Int} (h : 0 ≤ a ∧ a ≤ 18446744073709551615) (hm : (a == 18446744073709551615) = false) (hs : (c != IntKind.u64.wrap (a + 1)) = false) : c = a + 1 := by
  have hne : a ≠ 18446744073709551615 := by simpa using hm
  have hc : c = IntKind.u64.wrap (a + 1) := by simpa using hs
  rw [hc, IntKind.wrap_u64]
  omega

set_option maxHeartbeats 400000 in
theorem cons16_at (b off len cap : Nat) (V S Q T : Nat → Int) (PA : Nat → Option Addr) (PL PC : Nat → Nat) (w : World)
    (hM : MsgsAt w b off len V S Q T PA PL PC) (hlen : len ≤ maxLen) (hQ : ∀ i, i < len → 0 ≤ Q i ∧ Q i ≤ 18446744073709551615) :
    Calls Try.prog 16 #[.slice (some ⟨b, off, none⟩) len cap] w (Drawly w (∀ j, j + 1 < len → Q (j + 1) = Q j + 1)) := by
  unfold maxLen at hlen
  go_enter Try.func16, Try.ntmps16
  go_wp2
  go_loopw [3] (fun i wr => ∃ k : Nat, i = .int .i64 (k + 1) ∧ (∃ n, wr = w.drewN n) ∧ Hid (∀ j, j < k → j + 1 < len → Q (j + 1) = Q j + 1)) (fun i _ => len - (intOf i).toNat)
  case atStart => exact ⟨0, rfl, ⟨0, rfl⟩, fun j hj => by omega⟩
  case round =>
    obtain ⟨k, rfl, ⟨n, rfl⟩, HP⟩ := hrel
    by_cases hlt : k + 1 < len
    · have hc := hM.c2 (k + 1) hlt
      have hc' := hM.c2 k (by omega)
      have hq := hQ (k + 1) hlt
      have hq' := hQ k (by omega)
      have hi : (k : Int) + 1 < (len : Int) := by omega
      have hi' : (k : Int) < (len : Int) := by omega
      by_cases hmax : (Q k == 18446744073709551615) = true
      · go_wp2
        go_quiet (fail)
        go_wp2
        go_ret
        exact Drawly.no rfl ⟨n + nq, by simp⟩
      · have hmax' : (Q k == 18446744073709551615) = false := by simpa using hmax
        go_wp2
        go_quiet (fail)
        go_wp2
        · go_ret
          exact Drawly.no rfl ⟨n + nq, by simp⟩
        · have hs : (Q (k + 1) != IntKind.u64.wrap (Q k + 1)) = false := by assumption
          have hs' := seq_step hq' hmax' hs
          refine ⟨⟨k + 1, by go_num, ⟨n + nq, rfl⟩, fun j hj hj' => ?_⟩, by simp [intOf]; omega⟩
          by_cases hjk : j < k
          · exact HP.out j hjk hj'
          · obtain rfl : j = k := by omega
            exact hs'
    · go_wp2
      go_ret
      exact Drawly.yes rfl ⟨n, rfl⟩ fun j hj => HP.out j (by omega) hj

set_option maxHeartbeats 400000 in
theorem cons16_zero (a : Option Addr) (cap : Nat) (w : World) (R : Prop) (hR : R) :
    Calls Try.prog 16 #[.slice a 0 cap] w (Drawly w R) := by
  go_enter Try.func16, Try.ntmps16
  go_wp2
  go_loop [3] (fun i => i = .int .i64 1) (fun i => 0 - (intOf i).toNat)
  case atStart => exact rfl
  case round =>
    obtain rfl := hrel
    go_wp2
    go_ret
    exact Drawly.yes rfl ⟨0, rfl⟩ hR

theorem cons16 (a : Option Addr) (len cap : Nat) (V S Q T : Nat → Int) (PA : Nat → Option Addr) (PL PC : Nat → Nat) (w : World)
    (hM : Msgs w a len V S Q T PA PL PC) (hlen : len ≤ maxLen) (hQ : ∀ i, i < len → 0 ≤ Q i ∧ Q i ≤ 18446744073709551615) :
    Calls Try.prog 16 #[.slice a len cap] w (Drawly w (∀ j, j + 1 < len → Q (j + 1) = Q j + 1)) := by
  rcases hM with rfl | ⟨b, off, rfl, _, hM⟩
  · exact cons16_zero a cap w _ (fun j hj => absurd hj (Nat.not_lt_zero _))
  · exact cons16_at b off len cap V S Q T PA PL PC w hM hlen hQ

end Go.Proofs.Qxb6604164a
