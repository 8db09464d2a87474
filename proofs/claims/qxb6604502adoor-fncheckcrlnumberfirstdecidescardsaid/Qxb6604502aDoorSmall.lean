/-
  THE WALKS OF the tests of size (5, 11, 6), zzCloneBools (8), zzIsCRLNumber (9).
-/
import Derived.Test.Qxb6604502aDoorZZ
namespace Go.Proofs.Qxb6604502aDoor
open Go.RowKit
set_option linter.unusedVariables false

/-- It returns a bool, the world is as it was; where the bool is true, R. -/
def Boolly (w : World) (R : Prop) (e : Ending) (w' : World) : Prop := ∃ bb, e = .returned (.bool bb) ∧ w = w' ∧ (bb = true → R)
theorem Boolly.no {w : World} {R : Prop} {e : Ending} (h : e = .returned (.bool false)) : Boolly w R e w := ⟨false, h, rfl, by simp⟩
theorem Boolly.yes {w : World} {R : Prop} {e : Ending} (h : e = .returned (.bool true)) (hR : R) : Boolly w R e w := ⟨true, h, rfl, fun _ => hR⟩

set_option maxHeartbeats 1000000 in
theorem zz5 (a b : Option Addr) (n c m c' : Nat) (IA : Nat → Option Addr) (IL IC : Nat → Nat) (Z : Nat → Nat → Int) (w : World) (hn : n ≤ maxLen) (hm : m ≤ maxLen) (hI : Ids w a n IA IL IC Z) (hL : ∀ i, i < n → IL i ≤ maxLen) :
    Calls Tryd.prog 5 #[.slice a n c, .slice b m c'] w (Boolly w (∀ i, i < n → IL i ≤ 1048576)) := by
  unfold maxLen at *
  have HI : Hid (Ids w a n IA IL IC Z) := hI
  clear hI
  go_enter Tryd.func5, Tryd.ntmps5
  go_wp2
  all_goals try (go_ret; exact Boolly.no rfl)
  go_loop [5, 6] (fun z i => ∃ k : Nat, ∃ s : Int, k ≤ n ∧ i = .int .i64 k ∧ z = .int .i64 s ∧ 0 ≤ s ∧ s ≤ 1048576 ∧ Hid (∀ j, j < k → IL j ≤ 1048576)) (fun _ i => n - (intOf i).toNat)
  case atStart => exact ⟨0, n, Nat.zero_le _, rfl, rfl, by omega, by omega, fun j hj => absurd hj (Nat.not_lt_zero _)⟩
  case round =>
    obtain ⟨k, s, hk, rfl, rfl, hs0, hs1, HP⟩ := hrel
    by_cases hlt : k < n
    · rcases HI.out.out with h | ⟨ib, io, ha, _, hic⟩
      · omega
      subst ha
      have h0 := hic k hlt
      have hl := hL k hlt
      clear hic
      go_wp2
      · go_ret
        exact Boolly.no rfl
      · go_ret
        exact Boolly.no rfl
      · go_round
        case rel =>
          exact ⟨k + 1, s + IL k, by omega, by go_num, by go_num, by omega, by omega, fun j hj => by
              by_cases hjk : j < k
              · exact HP.out j hjk
              · obtain rfl : j = k := by omega
                omega⟩
        case measure => simp [intOf]; omega
    · go_wp2
      all_goals try (go_ret; exact Boolly.no rfl)
      go_ret
      exact Boolly.yes rfl fun i hi => HP.out i (by omega)

set_option maxHeartbeats 1000000 in
theorem zz11 (a b : Option Addr) (n c m c' : Nat) (cr : Bool) (IA : Nat → Option Addr) (IL IC : Nat → Nat) (Z : Nat → Nat → Int) (w : World) (hn : n ≤ maxLen) (hm : m ≤ maxLen) (hI : Ids w a n IA IL IC Z) (hL : ∀ i, i < n → IL i ≤ maxLen) :
    Calls Tryd.prog 11 #[.slice a n c, .slice b m c', .bool cr] w (Boolly w (∀ i, i < n → IL i ≤ 1048576)) := by
  unfold maxLen at *
  have HI : Hid (Ids w a n IA IL IC Z) := hI
  clear hI
  go_enter Tryd.func11, Tryd.ntmps11
  go_wp2
  all_goals try (go_ret; exact Boolly.no rfl)
  go_loop [7, 8] (fun z i => ∃ k : Nat, ∃ s : Int, k ≤ n ∧ i = .int .i64 k ∧ z = .int .i64 s ∧ 0 ≤ s ∧ s ≤ 1048576 ∧ Hid (∀ j, j < k → IL j ≤ 1048576)) (fun _ i => n - (intOf i).toNat)
  case atStart => exact ⟨0, n, Nat.zero_le _, rfl, rfl, by omega, by omega, fun j hj => absurd hj (Nat.not_lt_zero _)⟩
  case round =>
    obtain ⟨k, s, hk, rfl, rfl, hs0, hs1, HP⟩ := hrel
    by_cases hlt : k < n
    · rcases HI.out.out with h | ⟨ib, io, ha, _, hic⟩
      · omega
      subst ha
      have h0 := hic k hlt
      have hl := hL k hlt
      clear hic
      go_wp2
      · go_ret
        exact Boolly.no rfl
      · go_ret
        exact Boolly.no rfl
      · go_round
        case rel =>
          exact ⟨k + 1, s + IL k, by omega, by go_num, by go_num, by omega, by omega, fun j hj => by
              by_cases hjk : j < k
              · exact HP.out j hjk
              · obtain rfl : j = k := by omega
                omega⟩
        case measure => simp [intOf]; omega
    · go_wp2
      all_goals try (go_ret; exact Boolly.no rfl)
      go_ret
      exact Boolly.yes rfl fun i hi => HP.out i (by omega)

set_option maxHeartbeats 1000000 in
theorem size6 (a b : Option Addr) (n c m c' : Nat) (IA : Nat → Option Addr) (IL IC : Nat → Nat) (Z : Nat → Nat → Int) (w : World) (hn : n ≤ maxLen) (hm : m ≤ maxLen) (hI : Ids w a n IA IL IC Z) (hL : ∀ i, i < n → IL i ≤ 1048576) :
    Calls Tryd.prog 6 #[.slice a n c, .slice b m c'] w (Boolly w (n ≤ 65536 ∧ m ≤ 65536)) := by
  unfold maxLen at *
  have HI : Hid (Ids w a n IA IL IC Z) := hI
  clear hI
  by_cases g1 : 65536 < n
  · have g1' : (65536 : Int) < (n : Int) := by omega
    go_enter Tryd.func6, Tryd.ntmps6
    go_wp2
    go_ret
    exact Boolly.no rfl
  have e1 : decide ((65536 : Int) < (n : Int)) = false := by simp; omega
  by_cases g2 : 65536 < m
  · have g2' : (65536 : Int) < (m : Int) := by omega
    go_enter Tryd.func6, Tryd.ntmps6
    go_wp2
    go_ret
    exact Boolly.no rfl
  have e2 : decide ((65536 : Int) < (m : Int)) = false := by simp; omega
  have f1 : n ≤ 65536 := by omega
  have f2 : m ≤ 65536 := by omega
  clear g1 g2
  go_enter Tryd.func6, Tryd.ntmps6
  go_wp2
  go_loop [5, 6] (fun z i => ∃ k : Nat, ∃ s : Int, k ≤ n ∧ i = .int .i64 k ∧ z = .int .i64 s ∧ 0 ≤ s ∧ s ≤ 1048576) (fun _ i => n - (intOf i).toNat)
  case atStart => exact ⟨0, _, Nat.zero_le _, rfl, rfl, by omega, by omega⟩
  case round =>
    obtain ⟨k, s, hk, rfl, rfl, hs0, hs1⟩ := hrel
    by_cases hlt : k < n
    · rcases HI.out.out with h | ⟨ib, io, ha, _, hic⟩
      · omega
      subst ha
      have h0 := hic k hlt
      have hl := hL k hlt
      clear hic
      go_wp2
      · go_ret
        exact Boolly.no rfl
      · go_ret
        exact Boolly.no rfl
      · go_round
        case rel => exact ⟨k + 1, s + 8 * IL k, by omega, by go_num, by go_num, by omega, by omega⟩
        case measure => simp [intOf]; omega
    · go_wp2
      go_ret
      exact Boolly.yes rfl (by first | exact ⟨f1, f2⟩ | trivial)

set_option maxHeartbeats 1000000 in
theorem is9 (a : Option Addr) (n c : Nat) (Z : Nat → Int) (w : World) (hn : n ≤ 1048576) (hI : Ints w a n Z) :
    Calls Tryd.prog 9 #[.slice a n c] w fun e w' => e = .returned (.bool (crlB n Z)) ∧ w = w' := by
  by_cases h4 : n = 4
  · subst h4
    rcases hI with h | ⟨b, off, rfl, _, hc⟩
    · omega
    have c0 : w.cell? ⟨b, off, none⟩ = some (.int .i64 (Z 0)) := by simpa using hc 0 (by omega)
    have c1 := hc 1 (by omega)
    have c2 := hc 2 (by omega)
    have c3 := hc 3 (by omega)
    clear hc
    have HB : Hid (crlB 4 Z = (Z 0 == 2 && Z 1 == 5 && Z 2 == 29 && Z 3 == 20)) := by
      show crlB 4 Z = _
      rw [Bool.eq_iff_iff]
      simp [crlB, and_assoc]
    generalize Z 0 = z0 at *
    generalize Z 1 = z1 at *
    generalize Z 2 = z2 at *
    generalize Z 3 = z3 at *
    by_cases k0 : z0 = 2
    · have k0' : (z0 == 2) = true := by simp [k0]
      by_cases k1 : z1 = 5
      · have k1' : (z1 == 5) = true := by simp [k1]
        by_cases k2 : z2 = 29
        · have k2' : (z2 == 29) = true := by simp [k2]
          clear k0 k1 k2
          go_enter Tryd.func9, Tryd.ntmps9
          go_wp2
          go_ret
          exact ⟨by rw [HB.out, k0', k1', k2']; rfl, rfl⟩
        · have k2' : (z2 == 29) = false := by simp [k2]
          clear k0 k1 k2
          go_enter Tryd.func9, Tryd.ntmps9
          go_wp2
          go_ret
          exact ⟨by rw [HB.out, k0', k1', k2']; rfl, rfl⟩
      · have k1' : (z1 == 5) = false := by simp [k1]
        clear k0 k1
        go_enter Tryd.func9, Tryd.ntmps9
        go_wp2
        go_ret
        exact ⟨by rw [HB.out, k0', k1']; rfl, rfl⟩
    · have k0' : (z0 == 2) = false := by simp [k0]
      clear k0
      go_enter Tryd.func9, Tryd.ntmps9
      go_wp2
      go_ret
      exact ⟨by rw [HB.out, k0']; rfl, rfl⟩
  · have hne : ((n : Int) == 4) = false := by rw [beq_eq_false_iff_ne]; omega
    go_enter Tryd.func9, Tryd.ntmps9
    go_wp2
    go_ret
    exact ⟨by rw [crlB_len h4]; rfl, rfl⟩

theorem Tryd.info4 : (Tryd.prog.info? 4).map (fun i => (i.zero, i.size, i.bytes)) = some (some (.bool false), 1, 1) := by kernel_rfl

/-- A copy of the bools, in new memory. -/
def ClonedB (w : World) (n : Nat) (C : Nat → Bool) (e : Ending) (w' : World) : Prop := ∃ a, e = .returned (.slice a n n) ∧ Bools w' a n C ∧ Below w.heap.size w w'

set_option maxHeartbeats 1000000 in
theorem clone8 (a : Option Addr) (n c : Nat) (C : Nat → Bool) (w : World) (hn : n ≤ 65536) (hB : Bools w a n C) (h0 : a = none → n = 0) :
    Calls Tryd.prog 8 #[.slice a n c] w (ClonedB w n C) := by
  have hnil := fun wx => Lib.run_eql_slice_nil (P := Tryd.prog) wx 23 4 a n c 0 0 Tryd.underlying23
  cases a with
  | none =>
    obtain rfl := h0 rfl
    go_enter Tryd.func8, Tryd.ntmps8
    go_wp2
    go_ret
    exact ⟨none, rfl, .inl rfl, Below.refl _ _⟩
  | some ad =>
    clear h0
    have hmk := fun wx => run_make_row' (P := Tryd.prog) 23 4 (.bool false) 1 Tryd.underlying23 Tryd.info4 rfl .i64 .i64 n (by omega) (by omega) wx
    have HB : Hid (Bools w (some ad) n C) := hB
    clear hB
    go_enter Tryd.func8, Tryd.ntmps8
    go_wp2
    go_loopw [4] (fun i wr => ∃ k : Nat, k ≤ n ∧ i = .int .i64 k ∧ Below w.heap.size w wr ∧ wr.rowIs w.heap.size 4 n (fun j => .bool (if j < k then C j else false))) (fun i _ => n - (intOf i).toNat)
    case atStart => exact ⟨0, Nat.zero_le _, rfl, (Below.refl _ _).alloc (Nat.le_refl _) _, World.rowIs_made _ _ _ _⟩
    case round =>
      obtain ⟨k, hk, rfl, hbel, hrow⟩ := hrel
      by_cases hlt : k < n
      · rcases HB.out with h | ⟨b, off, ha, hb, hc⟩
        · omega
        cases ha
        have h1 : wr.cell? ⟨b, off + k, none⟩ = some (.bool (C k)) := (hbel.cell (by exact hb)).trans (hc k hlt)
        have h2 := hrow.cell hlt
        have h3 := hrow.frozen k
        have hi : (k : Int) < (n : Int) := by omega
        clear hc
        go_wp2
        go_roundw
        case rel =>
          refine ⟨k + 1, by omega, by go_num, hbel.setCell (Nat.le_refl _) _, (hrow.set k _).congr fun j hj => ?_⟩
          by_cases e : j = k
          · subst e; simp
          · rw [if_neg e]
            by_cases e2 : j < k
            · rw [if_pos e2, if_pos (by omega)]
            · rw [if_neg e2, if_neg (by omega)]
        case measure => simp [intOf]; omega
      · have hkn : n = k := by omega
        subst hkn
        go_wp2
        go_ret
        exact ⟨_, rfl, .inr ⟨_, 0, rfl, hrow.lt, fun i hi => by rw [Nat.zero_add, hrow.cell hi, if_pos hi]⟩, hbel⟩

end Go.Proofs.Qxb6604502aDoor
