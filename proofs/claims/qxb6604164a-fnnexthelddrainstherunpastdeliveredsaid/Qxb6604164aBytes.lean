/-
  THE WALKS OF THE THREE TESTS OF SIZE (functions 14, 19, 20: one text thrice).
-/
import Derived.Test.Qxb6604164aBase
namespace Go.Proofs.Qxb6604164a
open Go.RowKit

set_option maxHeartbeats 400000 in
theorem zz14_at (d p : Int) (b off len cap : Nat) (V S Q T : Nat → Int) (PA : Nat → Option Addr) (PL PC : Nat → Nat) (w : World)
    (hM : MsgsAt w b off len V S Q T PA PL PC) (hlen : len ≤ maxLen) (hPL : ∀ i, i < len → PL i ≤ maxLen) :
    Calls Try.prog 14 #[.int .u64 d, .slice (some ⟨b, off, none⟩) len cap, .int .u64 p] w (Boolly w (∀ i, i < len → PL i ≤ 1048576)) := by
  unfold maxLen at hlen hPL
  by_cases hbig : 1048576 < len
  · have hb' : (1048576 : Int) < (len : Int) := by omega
    go_enter Try.func14, Try.ntmps14
    go_wp2
    go_ret
    exact Boolly.no rfl
  · have hb' : decide ((1048576 : Int) < (len : Int)) = false := by simp; omega
    go_enter Try.func14, Try.ntmps14
    go_wp2
    go_loop [7, 8] (fun z i => ∃ k : Nat, ∃ n : Int, k ≤ len ∧ i = .int .i64 k ∧ z = .int .i64 n ∧ 0 ≤ n ∧ n ≤ 1048576 ∧ Hid (∀ j, j < k → PL j ≤ 1048576)) (fun _ i => len - (intOf i).toNat)
    case atStart => exact ⟨0, len, Nat.zero_le _, rfl, rfl, by omega, by omega, fun j hj => absurd hj (Nat.not_lt_zero _)⟩
    case round =>
      obtain ⟨k, n, hk, rfl, rfl, hn0, hn1, HP⟩ := hrel
      by_cases hlt : k < len
      · have hc := hM.c4 k hlt
        have hp := hPL k hlt
        go_wp2
        · go_ret
          exact Boolly.no rfl
        · go_ret
          exact Boolly.no rfl
        · go_round
          case rel =>
            exact ⟨k + 1, n + PL k, by omega, by go_num, by go_num, by omega, by omega, fun j hj => by
                by_cases hjk : j < k
                · exact HP.out j hjk
                · obtain rfl : j = k := by omega
                  omega⟩
          case measure => simp [intOf]; omega
      · go_wp2
        go_ret
        exact Boolly.yes rfl fun i hi => HP.out i (by omega)

set_option maxHeartbeats 400000 in
theorem zz14_zero (d p : Int) (a : Option Addr) (cap : Nat) (w : World) (R : Prop) (hR : R) :
    Calls Try.prog 14 #[.int .u64 d, .slice a 0 cap, .int .u64 p] w (Boolly w R) := by
  go_enter Try.func14, Try.ntmps14
  go_wp2
  go_loop [7, 8] (fun z i => i = .int .i64 0 ∧ z = .int .i64 0) (fun _ i => 0 - (intOf i).toNat)
  case atStart => exact ⟨rfl, rfl⟩
  case round =>
    obtain ⟨rfl, rfl⟩ := hrel
    go_wp2
    go_ret
    exact Boolly.yes rfl hR

theorem zz14 (d p : Int) (a : Option Addr) (len cap : Nat) (V S Q T : Nat → Int) (PA : Nat → Option Addr) (PL PC : Nat → Nat) (w : World)
    (hM : Msgs w a len V S Q T PA PL PC) (hlen : len ≤ maxLen) (hPL : ∀ i, i < len → PL i ≤ maxLen) :
    Calls Try.prog 14 #[.int .u64 d, .slice a len cap, .int .u64 p] w (Boolly w (∀ i, i < len → PL i ≤ 1048576)) := by
  rcases hM with rfl | ⟨b, off, rfl, _, hM⟩
  · exact zz14_zero d p a cap w _ (fun i hi => absurd hi (Nat.not_lt_zero _))
  · exact zz14_at d p b off len cap V S Q T PA PL PC w hM hlen hPL

set_option maxHeartbeats 400000 in
theorem zz19_at (d p : Int) (b off len cap : Nat) (V S Q T : Nat → Int) (PA : Nat → Option Addr) (PL PC : Nat → Nat) (w : World)
    (hM : MsgsAt w b off len V S Q T PA PL PC) (hlen : len ≤ maxLen) (hPL : ∀ i, i < len → PL i ≤ maxLen) :
    Calls Try.prog 19 #[.int .u64 d, .slice (some ⟨b, off, none⟩) len cap, .int .u64 p] w (Boolly w (∀ i, i < len → PL i ≤ 1048576)) := by
  unfold maxLen at hlen hPL
  by_cases hbig : 1048576 < len
  · have hb' : (1048576 : Int) < (len : Int) := by omega
    go_enter Try.func19, Try.ntmps19
    go_wp2
    go_ret
    exact Boolly.no rfl
  · have hb' : decide ((1048576 : Int) < (len : Int)) = false := by simp; omega
    go_enter Try.func19, Try.ntmps19
    go_wp2
    go_loop [7, 8] (fun z i => ∃ k : Nat, ∃ n : Int, k ≤ len ∧ i = .int .i64 k ∧ z = .int .i64 n ∧ 0 ≤ n ∧ n ≤ 1048576 ∧ Hid (∀ j, j < k → PL j ≤ 1048576)) (fun _ i => len - (intOf i).toNat)
    case atStart => exact ⟨0, len, Nat.zero_le _, rfl, rfl, by omega, by omega, fun j hj => absurd hj (Nat.not_lt_zero _)⟩
    case round =>
      obtain ⟨k, n, hk, rfl, rfl, hn0, hn1, HP⟩ := hrel
      by_cases hlt : k < len
      · have hc := hM.c4 k hlt
        have hp := hPL k hlt
        go_wp2
        · go_ret
          exact Boolly.no rfl
        · go_ret
          exact Boolly.no rfl
        · go_round
          case rel =>
            exact ⟨k + 1, n + PL k, by omega, by go_num, by go_num, by omega, by omega, fun j hj => by
                by_cases hjk : j < k
                · exact HP.out j hjk
                · obtain rfl : j = k := by omega
                  omega⟩
          case measure => simp [intOf]; omega
      · go_wp2
        go_ret
        exact Boolly.yes rfl fun i hi => HP.out i (by omega)

set_option maxHeartbeats 400000 in
theorem zz19_zero (d p : Int) (a : Option Addr) (cap : Nat) (w : World) (R : Prop) (hR : R) :
    Calls Try.prog 19 #[.int .u64 d, .slice a 0 cap, .int .u64 p] w (Boolly w R) := by
  go_enter Try.func19, Try.ntmps19
  go_wp2
  go_loop [7, 8] (fun z i => i = .int .i64 0 ∧ z = .int .i64 0) (fun _ i => 0 - (intOf i).toNat)
  case atStart => exact ⟨rfl, rfl⟩
  case round =>
    obtain ⟨rfl, rfl⟩ := hrel
    go_wp2
    go_ret
    exact Boolly.yes rfl hR

theorem zz19 (d p : Int) (a : Option Addr) (len cap : Nat) (V S Q T : Nat → Int) (PA : Nat → Option Addr) (PL PC : Nat → Nat) (w : World)
    (hM : Msgs w a len V S Q T PA PL PC) (hlen : len ≤ maxLen) (hPL : ∀ i, i < len → PL i ≤ maxLen) :
    Calls Try.prog 19 #[.int .u64 d, .slice a len cap, .int .u64 p] w (Boolly w (∀ i, i < len → PL i ≤ 1048576)) := by
  rcases hM with rfl | ⟨b, off, rfl, _, hM⟩
  · exact zz19_zero d p a cap w _ (fun i hi => absurd hi (Nat.not_lt_zero _))
  · exact zz19_at d p b off len cap V S Q T PA PL PC w hM hlen hPL

set_option maxHeartbeats 400000 in
theorem zz20_at (d p : Int) (b off len cap : Nat) (V S Q T : Nat → Int) (PA : Nat → Option Addr) (PL PC : Nat → Nat) (w : World)
    (hM : MsgsAt w b off len V S Q T PA PL PC) (hlen : len ≤ maxLen) (hPL : ∀ i, i < len → PL i ≤ maxLen) :
    Calls Try.prog 20 #[.int .u64 d, .slice (some ⟨b, off, none⟩) len cap, .int .u64 p] w (Boolly w (∀ i, i < len → PL i ≤ 1048576)) := by
  unfold maxLen at hlen hPL
  by_cases hbig : 1048576 < len
  · have hb' : (1048576 : Int) < (len : Int) := by omega
    go_enter Try.func20, Try.ntmps20
    go_wp2
    go_ret
    exact Boolly.no rfl
  · have hb' : decide ((1048576 : Int) < (len : Int)) = false := by simp; omega
    go_enter Try.func20, Try.ntmps20
    go_wp2
    go_loop [7, 8] (fun z i => ∃ k : Nat, ∃ n : Int, k ≤ len ∧ i = .int .i64 k ∧ z = .int .i64 n ∧ 0 ≤ n ∧ n ≤ 1048576 ∧ Hid (∀ j, j < k → PL j ≤ 1048576)) (fun _ i => len - (intOf i).toNat)
    case atStart => exact ⟨0, len, Nat.zero_le _, rfl, rfl, by omega, by omega, fun j hj => absurd hj (Nat.not_lt_zero _)⟩
    case round =>
      obtain ⟨k, n, hk, rfl, rfl, hn0, hn1, HP⟩ := hrel
      by_cases hlt : k < len
      · have hc := hM.c4 k hlt
        have hp := hPL k hlt
        go_wp2
        · go_ret
          exact Boolly.no rfl
        · go_ret
          exact Boolly.no rfl
        · go_round
          case rel =>
            exact ⟨k + 1, n + PL k, by omega, by go_num, by go_num, by omega, by omega, fun j hj => by
                by_cases hjk : j < k
                · exact HP.out j hjk
                · obtain rfl : j = k := by omega
                  omega⟩
          case measure => simp [intOf]; omega
      · go_wp2
        go_ret
        exact Boolly.yes rfl fun i hi => HP.out i (by omega)

set_option maxHeartbeats 400000 in
theorem zz20_zero (d p : Int) (a : Option Addr) (cap : Nat) (w : World) (R : Prop) (hR : R) :
    Calls Try.prog 20 #[.int .u64 d, .slice a 0 cap, .int .u64 p] w (Boolly w R) := by
  go_enter Try.func20, Try.ntmps20
  go_wp2
  go_loop [7, 8] (fun z i => i = .int .i64 0 ∧ z = .int .i64 0) (fun _ i => 0 - (intOf i).toNat)
  case atStart => exact ⟨rfl, rfl⟩
  case round =>
    obtain ⟨rfl, rfl⟩ := hrel
    go_wp2
    go_ret
    exact Boolly.yes rfl hR

theorem zz20 (d p : Int) (a : Option Addr) (len cap : Nat) (V S Q T : Nat → Int) (PA : Nat → Option Addr) (PL PC : Nat → Nat) (w : World)
    (hM : Msgs w a len V S Q T PA PL PC) (hlen : len ≤ maxLen) (hPL : ∀ i, i < len → PL i ≤ maxLen) :
    Calls Try.prog 20 #[.int .u64 d, .slice a len cap, .int .u64 p] w (Boolly w (∀ i, i < len → PL i ≤ 1048576)) := by
  rcases hM with rfl | ⟨b, off, rfl, _, hM⟩
  · exact zz20_zero d p a cap w _ (fun i hi => absurd hi (Nat.not_lt_zero _))
  · exact zz20_at d p b off len cap V S Q T PA PL PC w hM hlen hPL

end Go.Proofs.Qxb6604164a
