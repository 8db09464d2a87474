/-
  THE WALK OF lawSameButMessages (13).
-/
import Derived.Test.Qxb6604164aLacked
namespace Go.Proofs.Qxb6604164a
open Go.RowKit Go.Maps
set_option linter.unusedVariables false

theorem ddr (w : World) (a b : Nat) : ∃ d, (w.drewN a).drewN b = w.drewN d := ⟨a + b, World.drewN_drewN _ _ _⟩

set_option maxHeartbeats 1000000 in
theorem sbm13 (nb ib : Nat) (v : Int) (pa : Option Addr) (pl : Nat) (cut least : Option Nat) (DC DL : DataW Unit) (x da : Option Addr) (c cap n n' : Nat) (ra : Option Addr) (rl : Nat) (ka la : Option Addr) (lk0 ck ll cl : Nat) (K L : Nat → Int) (w : World)
    (h1 : Inst w nb v pa pl cut least x c cap ra rl) (h2 : Inst w ib v pa pl cut least da n n' ra rl) (hP : PSl w pa pl) (hpl : pl ≤ 65536) (hC : MapOwn w cut DC) (hL : MapOwn w least DL)
    (hR : RSl w ra rl) (hrl : rl ≤ 65536) (hK : Ints .u32 w ka lk0 K) (hlk : lk0 ≤ 65536) (hLK : Ints .u32 w la ll L) (hll : ll ≤ 65536) :
    Calls Try.prog 13 #[.pointer (some ⟨nb, 0, none⟩), .pointer (some ⟨ib, 0, none⟩), .slice ka lk0 ck, .slice la ll cl] w (Yes w) := by
  have a0 := h1.c0
  have a1 := h1.c1
  have a2 := h1.c2
  have a3 := h1.c3
  have a5 := h1.c5
  have b0 := h2.c0
  have b1 := h2.c1
  have b2 := h2.c2
  have b3 := h2.c3
  have b5 := h2.c5
  have hvv : (v != v) = false := by simp
  have H25 : Hid (∀ wx, (∃ d, wx = w.drewN d) → Calls Try.prog 25 #[.slice pa pl pl, .slice pa pl pl] wx fun e w' => e = .returned (.bool true) ∧ ∃ m, w' = wx.drewN m) := fun wx ⟨d, e⟩ => by subst e; exact same25 pa pl _ (hP.below (below_drewN (Below.refl _ _) d)) hpl
  have HC : Hid (∀ wx, (∃ d, wx = w.drewN d) → Calls Try.prog 26 #[.map cut, .map cut, .slice ka lk0 ck] wx fun e w' => e = .returned (.bool true) ∧ w' = wx) := fun wx ⟨d, e⟩ => by subst e; exact same26 cut DC ka lk0 ck K _ (hC.below (below_drewN (Below.refl _ _) d)) (hK.below (below_drewN (Below.refl _ _) d)) hlk
  have HL : Hid (∀ wx, (∃ d, wx = w.drewN d) → Calls Try.prog 26 #[.map least, .map least, .slice la ll cl] wx fun e w' => e = .returned (.bool true) ∧ w' = wx) := fun wx ⟨d, e⟩ => by subst e; exact same26 least DL la ll cl L _ (hL.below (below_drewN (Below.refl _ _) d)) (hLK.below (below_drewN (Below.refl _ _) d)) hll
  have HR : Hid (RSl w ra rl) := hR
  clear h1 h2 hP hC hL hK hLK hR
  go_enter Try.func13, Try.ntmps13
  go_wp2
  go_quiet ((go_at_call 25; exact Calls.quiet_of (H25.out _ ⟨_, rfl⟩)))
  go_wp2
  generalize hW : w.drewN nq = W1
  have a2 : W1.cell? ⟨nb, 2, none⟩ = some (.map cut) := by rw [← hW]; exact a2
  have a3 : W1.cell? ⟨nb, 3, none⟩ = some (.map least) := by rw [← hW]; exact a3
  have a5 : W1.cell? ⟨nb, 5, none⟩ = some (.slice ra rl rl) := by rw [← hW]; exact a5
  have b2 : W1.cell? ⟨ib, 2, none⟩ = some (.map cut) := by rw [← hW]; exact b2
  have b3 : W1.cell? ⟨ib, 3, none⟩ = some (.map least) := by rw [← hW]; exact b3
  have b5 : W1.cell? ⟨ib, 5, none⟩ = some (.slice ra rl rl) := by rw [← hW]; exact b5
  have HC1 : Hid (∀ d, Calls Try.prog 26 #[.map cut, .map cut, .slice ka lk0 ck] (W1.drewN d) fun e w' => e = .returned (.bool true) ∧ w' = W1.drewN d) := fun d => HC.out _ (by rw [← hW]; exact ddr _ _ _)
  have HL1 : Hid (∀ d, Calls Try.prog 26 #[.map least, .map least, .slice la ll cl] (W1.drewN d) fun e w' => e = .returned (.bool true) ∧ w' = W1.drewN d) := fun d => HL.out _ (by rw [← hW]; exact ddr _ _ _)
  have HR1 : Hid (RSl W1 ra rl) := by rw [← hW]; exact HR.out.below (below_drewN (Below.refl _ _) _)
  have HY1 : Hid (∀ d, Yes w (.returned (.bool true)) (W1.drewN d)) := fun d => ⟨rfl, by rw [← hW]; exact ddr _ _ _⟩
  clear hW a0 a1 b0 b1 HC HL HR H25
  go_quiet (first | (go_at_call_of 26 (Value.map cut); exact Calls.quiet_of_same (HC1.out _)) | (go_at_call_of 26 (Value.map least); exact Calls.quiet_of_same (HL1.out _)))
  have hnil := fun wx => Lib.run_eql_slice_nil (P := Try.prog) wx 40 68 ra rl rl 0 0 Try.underlying40
  have hbb : (ra.isNone != ra.isNone) = false := by simp
  have hll' : ((rl : Int) != (rl : Int)) = false := by simp
  have hgd : Try.prog.eqGuardType Try.prog.depth 68 = false := by kernel_rfl
  go_wp2
  go_quiet (fail)
  go_wp2
  go_loopw [9] (fun i wr => ∃ k : Nat, k ≤ rl ∧ i = .int .i64 k ∧ ∃ d, wr = W1.drewN d) (fun i _ => rl - (intOf i).toNat)
  case atStart => exact ⟨0, Nat.zero_le _, rfl, _, World.drewN_drewN _ _ _⟩
  case round =>
    obtain ⟨k, hk, rfl, d, rfl⟩ := hrel
    by_cases hlt : k < rl
    · rcases HR1.out with h0 | ⟨g, ha, f, hr, hf⟩
      · omega
      subst ha
      obtain ⟨⟨a', e0⟩, c', e2⟩ := hf k hlt
      have hg0 : W1.cell? ⟨g, k * 2, none⟩ = some (.int .u32 a') := by rw [hr.cell (by omega), e0]
      have hg2 : W1.cell? ⟨g, k * 2 + 1, none⟩ = some (.int .u64 c') := by rw [hr.cell (by omega), e2]
      have hi : (k : Int) < (rl : Int) := by omega
      have hneq := fun wx => neq68 a' c' wx
      clear hr hf e0 e2
      go_wp2
      go_quiet (fail)
      go_wp2
      go_roundw
      case rel => exact ⟨k + 1, by omega, by go_num, _, rfl⟩
      case measure => simp [intOf]; omega
    · go_wp2
      go_ret
      exact HY1.out d

end Go.Proofs.Qxb6604164a
