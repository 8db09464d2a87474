/-
  THE WALK OF lawSamePeers (25).
-/
import Derived.Test.Qxb6604164aPeers
import Derived.Deep.QuietTactic
import Derived.BigQuiet
namespace Go.Proofs.Qxb6604164a
open Go.RowKit
set_option linter.unusedVariables false

def Yes (w : World) (e : Ending) (w' : World) : Prop := e = .returned (.bool true) ∧ ∃ n, w' = w.drewN n

set_option maxHeartbeats 400000 in
theorem same25 (a : Option Addr) (len : Nat) (w : World) (h : PSl w a len) (hlen : len ≤ 65536) :
    Calls Try.prog 25 #[.slice a len len, .slice a len len] w (Yes w) := by
  have hnil := fun wx => Lib.run_eql_slice_nil (P := Try.prog) wx 36 76 a len len 0 0 Try.underlying36
  have hbb : (a.isNone != a.isNone) = false := by simp
  have hll : ((len : Int) != (len : Int)) = false := by simp
  have hgd : Try.prog.eqGuardType Try.prog.depth 76 = false := by kernel_rfl
  have H : Hid (PSl w a len) := h
  clear h
  go_enter Try.func25, Try.ntmps25
  go_wp2
  go_loopw [5] (fun i wr => ∃ k : Nat, k ≤ len ∧ i = .int .i64 k ∧ ∃ n, wr = w.drewN n) (fun i _ => len - (intOf i).toNat)
  case atStart => exact ⟨0, Nat.zero_le _, rfl, 0, rfl⟩
  case round =>
    obtain ⟨k, hk, rfl, n, rfl⟩ := hrel
    by_cases hlt : k < len
    · rcases H.out with h0 | ⟨g, ha, f, hr, hf⟩
      · omega
      subst ha
      obtain ⟨⟨a', e0⟩, ⟨s', e1⟩, c', e2⟩ := hf k hlt
      have hg0 : w.cell? ⟨g, k * 3, none⟩ = some (.int .u32 a') := by rw [hr.cell (by omega), e0]
      have hg1 : w.cell? ⟨g, k * 3 + 1, none⟩ = some (.string s') := by rw [hr.cell (by omega), e1]
      have hg2 : w.cell? ⟨g, k * 3 + 2, none⟩ = some (.int .u64 c') := by rw [hr.cell (by omega), e2]
      have hi : (k : Int) < (len : Int) := by omega
      have hneq := fun wx => neq76 a' c' s' wx
      clear hr hf e0 e1 e2
      go_wp2
      go_quiet (fail)
      go_wp2
      go_roundw
      case rel => exact ⟨k + 1, by omega, by go_num, n + nq, by simp⟩
      case measure => simp [intOf]; omega
    · go_wp2
      go_ret
      exact ⟨rfl, n, rfl⟩

end Go.Proofs.Qxb6604164a
