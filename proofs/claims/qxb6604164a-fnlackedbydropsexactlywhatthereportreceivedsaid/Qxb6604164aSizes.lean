/-
  THE WALKS OF the test of size (7) and lawLackedBudget (8).
-/
import Derived.Test.Qxb6604164aLeft
import Derived.Test.Qxb6604164aPeers
namespace Go.Proofs.Qxb6604164a
open Go.RowKit
set_option linter.unusedVariables false

set_option maxHeartbeats 2000000 in
theorem zz7 (v : Int) (nr : Bool) (ma a1 a2 a3 a4 a5 a a9 a10 : Option Addr) (ml mc l1 c1 l2 c2 l3 c3 l4 c4 l5 c5 len cap l9 c9 l10 c10 : Nat) (I N : Nat → Int) (A : Nat → ByteArray) (V S Q T : Nat → Int) (PA : Nat → Option Addr) (PL PC : Nat → Nat) (w : World)
    (hP : Peers w ma ml I N A) (hA : ∀ i, i < ml → (A i).size ≤ maxLen) (hM : Msgs w a len V S Q T PA PL PC) (hPL : ∀ i, i < len → PL i ≤ maxLen)
    (h0 : ml ≤ maxLen) (h1 : l1 ≤ maxLen) (h2 : l2 ≤ maxLen) (h3 : l3 ≤ maxLen) (h4 : l4 ≤ maxLen) (h5 : l5 ≤ maxLen) (h6 : len ≤ maxLen) (h9 : l9 ≤ maxLen) (h10 : l10 ≤ maxLen) :
    Calls Try.prog 7 #[.int .u64 v, .slice ma ml mc, .slice a1 l1 c1, .slice a2 l2 c2, .slice a3 l3 c3, .slice a4 l4 c4, .slice a5 l5 c5, .slice a len cap, .bool nr, .slice a9 l9 c9, .slice a10 l10 c10] w (Boolly w (∀ i, i < len → PL i ≤ 1048576)) := by
  unfold maxLen at *
  have HP : Hid (Peers w ma ml I N A) := hP
  have HM : Hid (Msgs w a len V S Q T PA PL PC) := hM
  clear hP hM
  go_enter Try.func7, Try.ntmps7
  go_wp2
  all_goals try (go_ret; exact Boolly.no rfl)
  go_loop [23, 24] (fun z i => ∃ k : Nat, ∃ n : Int, k ≤ ml ∧ i = .int .i64 k ∧ z = .int .i64 n ∧ 0 ≤ n ∧ n ≤ 1048576) (fun _ i => ml - (intOf i).toNat)
  case atStart => exact ⟨0, ml, Nat.zero_le _, rfl, rfl, by omega, by omega⟩
  case round =>
    obtain ⟨k, n, hk, rfl, rfl, hn0, hn1⟩ := hrel
    by_cases hlt : k < ml
    · rcases HP.out with h | ⟨b, off, ha, _, hp⟩
      · omega
      subst ha
      have hc := hp.c1 k hlt
      have hs := hA k hlt
      clear hp
      go_wp2
      · go_ret
        exact Boolly.no rfl
      · go_ret
        exact Boolly.no rfl
      · go_round
        case rel => exact ⟨k + 1, n + (A k).size, by omega, by go_num, by go_num, by omega, by omega⟩
        case measure => simp [intOf]; omega
    · go_wp2
      all_goals try (go_ret; exact Boolly.no rfl)
      go_loop [23, 25] (fun z i => ∃ k : Nat, ∃ n : Int, k ≤ len ∧ i = .int .i64 k ∧ z = .int .i64 n ∧ 0 ≤ n ∧ n ≤ 1048576 ∧ Hid (∀ j, j < k → PL j ≤ 1048576)) (fun _ i => len - (intOf i).toNat)
      case atStart => exact ⟨0, _, Nat.zero_le _, rfl, rfl, by omega, by omega, fun j hj => absurd hj (Nat.not_lt_zero _)⟩
      case round =>
        obtain ⟨k', n', hk', rfl, rfl, hn0', hn1', HPL⟩ := hrel
        by_cases hlt' : k' < len
        · rcases HM.out with h | ⟨b, off, ha, _, hp⟩
          · omega
          subst ha
          have hc := hp.c4 k' hlt'
          have hs := hPL k' hlt'
          clear hp
          go_wp2
          · go_ret
            exact Boolly.no rfl
          · go_ret
            exact Boolly.no rfl
          · go_round
            case rel =>
              exact ⟨k' + 1, n' + PL k', by omega, by go_num, by go_num, by omega, by omega, fun j hj => by
                  by_cases hjk : j < k'
                  · exact HPL.out j hjk
                  · obtain rfl : j = k' := by omega
                    omega⟩
            case measure => simp [intOf]; omega
        · go_wp2
          all_goals try (go_ret; exact Boolly.no rfl)
          go_ret
          exact Boolly.yes rfl fun i hi => HPL.out i (by omega)

set_option maxHeartbeats 1000000 in
theorem budget8 (ma a1 a2 a3 a4 a5 a a9 a10 : Option Addr) (ml mc l1 c1 l2 c2 l3 c3 l4 c4 l5 c5 len cap l9 c9 l10 c10 : Nat) (I N : Nat → Int) (A : Nat → ByteArray) (V S Q T : Nat → Int) (PA : Nat → Option Addr) (PL PC : Nat → Nat) (w : World)
    (hP : Peers w ma ml I N A) (hA : ∀ i, i < ml → (A i).size ≤ maxLen) (hM : Msgs w a len V S Q T PA PL PC) (hPL : ∀ i, i < len → PL i ≤ maxLen)
    (h0 : ml ≤ 65536) (h1 : l1 ≤ 65536) (h2 : l2 ≤ 65536) (h3 : l3 ≤ 65536) (h4 : l4 ≤ 65536) (h5 : l5 ≤ 65536) (h6 : len ≤ 65536) (h9 : l9 ≤ 65536) (h10 : l10 ≤ 65536) :
    Calls Try.prog 8 #[.slice ma ml mc, .slice a1 l1 c1, .slice a2 l2 c2, .slice a3 l3 c3, .slice a4 l4 c4, .slice a5 l5 c5, .slice a len cap, .slice a9 l9 c9, .slice a10 l10 c10] w (Inty w) := by
  have HP : Hid (Peers w ma ml I N A) := hP
  have HM : Hid (Msgs w a len V S Q T PA PL PC) := hM
  have HA : Hid (∀ i, i < ml → (A i).size ≤ maxLen) := hA
  have HPL : Hid (∀ i, i < len → PL i ≤ maxLen) := hPL
  clear hP hM hA hPL
  go_enter Try.func8, Try.ntmps8
  go_wp2_with fail
  refine (left21 _ ma ml mc I N A _ HP.out h0 HA.out (by omega) (by omega)).mono ?_
  rintro e w1 ⟨r, rfl, rfl, hr⟩
  go_wp2_with fail
  refine (left15 r a len cap V S Q T PA PL PC _ HM.out (by unfold maxLen; omega) HPL.out hr.out.1 hr.out.2).mono ?_
  rintro e w1 ⟨r', rfl, rfl⟩
  go_wp2
  go_ret
  exact Inty.mk rfl

end Go.Proofs.Qxb6604164a
