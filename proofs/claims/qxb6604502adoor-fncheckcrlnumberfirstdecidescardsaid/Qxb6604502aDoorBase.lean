/-
  WHAT THE WALKS SPEAK OF; the walks of errors.New (14), slices.Equal (18), ObjectIdentifier.Equal (17), findExtension's closure (16).
-/
import Derived.Test.Qxb6604502aDoorRows
import Derived.WalkKit
import Derived.WalkSpells
import Derived.WalkLawsBesides
import Derived.Deep.OwnRows
import Derived.Deep.QuietTactic
import Derived.BigQuiet
namespace Go.Proofs.Qxb6604502aDoor
open Go.RowKit
set_option linter.unusedVariables false

/-- A slice of ints: it is empty, or its elements lie in a block. -/
def Ints (w : World) (a : Option Addr) (len : Nat) (Z : Nat → Int) : Prop :=
  len = 0 ∨ ∃ b off, a = some ⟨b, off, none⟩ ∧ b < w.heap.size ∧ ∀ i, i < len → w.cell? ⟨b, off + i, none⟩ = some (.int .i64 (Z i))

theorem Ints.below {w w' : World} {a : Option Addr} {len : Nat} {Z : Nat → Int} (h : Ints w a len Z) (hb : Below w.heap.size w w') : Ints w' a len Z := by
  rcases h with h | ⟨b, off, ha, hl, h⟩
  · exact .inl h
  · exact .inr ⟨b, off, ha, Nat.lt_of_lt_of_le hl hb.size, fun i hi => (hb.cell (by exact hl)).trans (h i hi)⟩

/-- Is it the CRL Number's identifier? -/
def crlB (len : Nat) (Z : Nat → Int) : Bool := decide (len = 4 ∧ Z 0 = 2 ∧ Z 1 = 5 ∧ Z 2 = 29 ∧ Z 3 = 20)
def oidZ (i : Nat) : Int := if i = 0 then 2 else if i = 1 then 5 else if i = 2 then 29 else 20

theorem crlB_yes {Z : Nat → Int} (h : ∀ i, i < 4 → Z i = oidZ i) : crlB 4 Z = true := by
  have h0 := h 0 (by omega)
  have h1 := h 1 (by omega)
  have h2 := h 2 (by omega)
  have h3 := h 3 (by omega)
  simp [crlB, h0, h1, h2, h3, oidZ]
theorem crlB_no {Z : Nat → Int} {k : Nat} (hk : k < 4) (h : Z k ≠ oidZ k) : crlB 4 Z = false := by
  simp only [crlB, decide_eq_false_iff_not]
  rintro ⟨_, h0, h1, h2, h3⟩
  apply h
  rcases (show k = 0 ∨ k = 1 ∨ k = 2 ∨ k = 3 by omega) with rfl | rfl | rfl | rfl
  · exact h0
  · exact h1
  · exact h2
  · exact h3
theorem crlB_len {len : Nat} {Z : Nat → Int} (h : len ≠ 4) : crlB len Z = false := by simp [crlB, h]

def Ans (w : World) (b : Bool) (e : Ending) (w' : World) : Prop := e = .returned (.bool b) ∧ ∃ n, w' = w.drewN n

set_option maxHeartbeats 400000 in
theorem eq18 (a o : Option Addr) (len c oc : Nat) (Z : Nat → Int) (w : World) (hl : len ≤ 1048576) (hA : Ints w a len Z) (hO : Ints w o 4 oidZ) :
    Calls Tryd.prog 18 #[.slice a len c, .slice o 4 oc] w (Ans w (crlB len Z)) := by
  have HA : Hid (Ints w a len Z) := hA
  clear hA
  rcases hO with h | ⟨ob, oo, rfl, _, hoc⟩
  · omega
  by_cases h4 : len = 4
  · subst h4
    have hne : ((4 : Int) != (4 : Int)) = false := by simp
    rcases HA.out with h | ⟨ab, ao, rfl, _, hac⟩
    · omega
    go_enter Tryd.func18, Tryd.ntmps18
    go_wp2
    go_loopw [13] (fun i wr => ∃ k : Nat, k ≤ 4 ∧ i = .int .i64 k ∧ (∃ n, wr = w.drewN n) ∧ Hid (∀ i, i < k → Z i = oidZ i)) (fun i _ => 4 - (intOf i).toNat)
    case atStart => exact ⟨0, by omega, rfl, ⟨0, rfl⟩, fun i hi => absurd hi (Nat.not_lt_zero _)⟩
    case round =>
      obtain ⟨k, hk, rfl, ⟨n, rfl⟩, HP⟩ := hrel
      by_cases hlt : k < 4
      · have h1 := hac k hlt
        have h2 := hoc k hlt
        have hi : (k : Int) < 4 := by omega
        by_cases hz : Z k = oidZ k
        · have hzz : (Z k != oidZ k) = false := by simp [hz]
          have HZ : Hid (Z k = oidZ k) := hz
          clear hz
          go_wp2
          go_quiet (fail)
          go_wp2
          go_roundw
          case rel =>
            refine ⟨k + 1, by omega, by go_num, ⟨_, rfl⟩, fun i hi => ?_⟩
            by_cases hik : i < k
            · exact HP.out i hik
            · obtain rfl : i = k := by omega
              exact HZ.out
          case measure => simp [intOf]; omega
        · have hzz : (Z k != oidZ k) = true := by simp [hz]
          go_wp2
          go_quiet (fail)
          go_wp2
          go_ret
          exact ⟨by rw [crlB_no hlt hz]; rfl, n + nq, by simp⟩
      · go_wp2
        go_ret
        exact ⟨by rw [crlB_yes (fun i hi => HP.out i (by omega))]; rfl, n, rfl⟩
  · have hne : ((len : Int) != 4) = true := by rw [bne_iff_ne]; omega
    go_enter Tryd.func18, Tryd.ntmps18
    go_wp2
    go_ret
    exact ⟨by rw [crlB_len h4]; rfl, 0, rfl⟩

set_option maxHeartbeats 400000 in
theorem eq17 (a o : Option Addr) (len c oc : Nat) (Z : Nat → Int) (w : World) (hl : len ≤ 1048576) (hA : Ints w a len Z) (hO : Ints w o 4 oidZ) :
    Calls Tryd.prog 17 #[.slice a len c, .slice o 4 oc] w (Ans w (crlB len Z)) := by
  go_enter Tryd.func17, Tryd.ntmps17
  go_wp2_with fail
  refine (eq18 a o len c oc Z _ hl hA hO).mono ?_
  rintro e w1 ⟨rfl, n, rfl⟩
  go_wp2
  go_ret
  exact ⟨rfl, n, rfl⟩

/-- It returns this bool; nothing that was there has turned. -/
def Says (w : World) (b : Bool) (e : Ending) (w' : World) : Prop := e = .returned (.bool b) ∧ Below w.heap.size w w'

set_option maxHeartbeats 400000 in
theorem clo16 (ia va o : Option Addr) (il ic vl vc oc rb : Nat) (cr : Bool) (Z : Nat → Int) (w : World) (hl : il ≤ 1048576) (hA : Ints w ia il Z) (hO : Ints w o 4 oidZ) (hr : w.cell? ⟨rb, 0, none⟩ = some (.slice o 4 oc)) (hrb : rb < w.heap.size) :
    Calls Tryd.prog 16 #[.agg #[.slice ia il ic, .bool cr, .slice va vl vc], .pointer (some ⟨rb, 0, none⟩)] w (Says w (crlB il Z)) := by
  have hne : rb ≠ w.heap.size := by omega
  have hb1 : Below w.heap.size w (w.alloc (.cells #[.slice ia il ic, .bool cr, .slice va vl vc] 37)) := (Below.refl _ _).alloc (Nat.le_refl _) _
  have HE := eq17 ia o il ic oc Z (w.alloc (.cells #[.slice ia il ic, .bool cr, .slice va vl vc] 37)) hl (hA.below hb1) (hO.below hb1)
  have H : Hid (Calls Tryd.prog 17 #[.slice ia il ic, .slice o 4 oc] (w.alloc (.cells #[.slice ia il ic, .bool cr, .slice va vl vc] 37)) (Ans (w.alloc (.cells #[.slice ia il ic, .bool cr, .slice va vl vc] 37)) (crlB il Z))) := HE
  have HB : Hid (Below w.heap.size w (w.alloc (.cells #[.slice ia il ic, .bool cr, .slice va vl vc] 37))) := hb1
  clear HE hb1 hA hO
  go_enter Tryd.func16, Tryd.ntmps16
  go_wp2_with fail
  refine (H.out).mono ?_
  rintro e w1 ⟨rfl, n, rfl⟩
  go_wp2
  go_ret
  exact ⟨rfl, below_drewN HB.out n⟩

set_option maxHeartbeats 400000 in
theorem new14 (s : ByteArray) (w : World) : Calls Tryd.prog 14 #[.string s] w fun e w' => ∃ b, e = .returned (.iface 71 (.pointer (some ⟨b, 0, none⟩))) ∧ Below w.heap.size w w' := by
  go_enter Tryd.func14, Tryd.ntmps14
  go_wp2
  go_ret
  exact ⟨w.heap.size, rfl, (Below.refl _ _).alloc (Nat.le_refl _) _⟩

end Go.Proofs.Qxb6604502aDoor
