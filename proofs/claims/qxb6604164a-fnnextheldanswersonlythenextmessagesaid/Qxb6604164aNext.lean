/-
  THE WALKS OF nextHeld (28), ZZNextHeld (18).
-/
import Derived.Test.Qxb6604164aMake
import Derived.Deep.QuietTactic
import Derived.BigQuiet
import Derived.LaidEqlPtr
import Derived.Lib.Builder
namespace Go.Proofs.Qxb6604164a
open Go.RowKit

/-- What nextHeld answers, t standing for delivered + 1: the kept message at place t - Q 0, if it is numbered t. -/
def nh (t : Int) (len : Nat) (Q : Nat → Int) (B : Nat → Nat) : Option Addr :=
  if 0 < len ∧ Q 0 ≤ t ∧ (t - Q 0).toNat < len ∧ Q (t - Q 0).toNat = t then some ⟨B (t - Q 0).toNat, 0, none⟩ else none

def Nexty (w : World) (t : Int) (len : Nat) (Q : Nat → Int) (B : Nat → Nat) (e : Ending) (w' : World) : Prop :=
  e = .returned (.pointer (nh t len Q B)) ∧ ∃ n, w' = w.drewN n

theorem Nexty.no {w w' : World} {t : Int} {len : Nat} {Q : Nat → Int} {B : Nat → Nat} {e : Ending} (he : e = .returned (.pointer none)) (hw : ∃ n, w' = w.drewN n)
    (h : ¬ (0 < len ∧ Q 0 ≤ t ∧ (t - Q 0).toNat < len ∧ Q (t - Q 0).toNat = t)) : Nexty w t len Q B e w' := ⟨by rw [he, nh, if_neg h], hw⟩
theorem Nexty.yes {w w' : World} {t : Int} {len : Nat} {Q : Nat → Int} {B : Nat → Nat} {e : Ending} {j : Nat} (he : e = .returned (.pointer (some ⟨B j, 0, none⟩))) (hw : ∃ n, w' = w.drewN n)
    (hl : j < len) (h0 : t - Q 0 = j) (hj : Q j = t) : Nexty w t len Q B e w' := by
  have e1 : (t - Q 0).toNat = j := by omega
  refine ⟨?_, hw⟩
  rw [he, nh, if_pos ⟨by omega, by omega, by omega, by rw [e1]; exact hj⟩, e1]

theorem draws3 (w : World) (a b c : Nat) : ∃ n, ((w.drewN a).drewN b).drewN c = w.drewN n := ⟨a + (b + c), by rw [World.drewN_drewN, World.drewN_drewN]⟩

set_option maxHeartbeats 400000 in
theorem next28_zero (r : Nat) (d t : Int) (a : Option Addr) (cap : Nat) (Q : Nat → Int) (B : Nat → Nat) (w : World)
    (_h0 : w.cell? ⟨r, 0, none⟩ = some (.int .u64 d)) (h1 : w.cell? ⟨r, 1, none⟩ = some (.slice a 0 cap)) :
    Calls Try.prog 28 #[.pointer (some ⟨r, 0, none⟩)] w (Nexty w t 0 Q B) := by
  go_enter Try.func28, Try.ntmps28
  go_wp2
  go_quiet (fail)
  go_wp2
  go_ret
  exact Nexty.no rfl ⟨nq, rfl⟩ (by omega)

set_option maxHeartbeats 400000 in
theorem next28_less (r : Nat) (d t : Int) (g len cap : Nat) (S Q : Nat → Int) (B : Nat → Nat) (w : World) (ht : IntKind.u64.wrap (d + 1) = t) (hlen : 0 < len) (hmax : len ≤ 1048576)
    (h0 : w.cell? ⟨r, 0, none⟩ = some (.int .u64 d)) (h1 : w.cell? ⟨r, 1, none⟩ = some (.slice (some ⟨g, 0, none⟩) len cap))
    (hp : ∀ i, i < len → w.cell? ⟨g, i, none⟩ = some (.pointer (some ⟨B i, 0, none⟩))) (hb : ∀ i, i < len → Box w (B i) (S i) (Q i))
    (hless : t < Q 0) :
    Calls Try.prog 28 #[.pointer (some ⟨r, 0, none⟩)] w (Nexty w t len Q B) := by
  have hp0 := hp 0 hlen
  have hq0 := (hb 0 hlen).c2
  have hl : ((len : Int) == 0) = false := by simp; omega
  have hl0 : (0 : Int) < (len : Int) := by omega
  go_enter Try.func28, Try.ntmps28
  go_wp2
  go_quiet (fail)
  go_wp2
  go_ret
  exact Nexty.no rfl ⟨nq, rfl⟩ (by omega)

set_option maxHeartbeats 1000000 in
theorem next28_more (r : Nat) (d t : Int) (g len cap j : Nat) (S Q : Nat → Int) (B : Nat → Nat) (w : World) (ht : IntKind.u64.wrap (d + 1) = t) (ht0 : 0 ≤ t) (ht1 : t ≤ 18446744073709551615) (hQ0 : 0 ≤ Q 0) (hlen : 0 < len) (hmax : len ≤ 1048576)
    (h0 : w.cell? ⟨r, 0, none⟩ = some (.int .u64 d)) (h1 : w.cell? ⟨r, 1, none⟩ = some (.slice (some ⟨g, 0, none⟩) len cap))
    (hp : ∀ i, i < len → w.cell? ⟨g, i, none⟩ = some (.pointer (some ⟨B i, 0, none⟩))) (hb : ∀ i, i < len → Box w (B i) (S i) (Q i))
    (hj : t - Q 0 = j) :
    Calls Try.prog 28 #[.pointer (some ⟨r, 0, none⟩)] w (Nexty w t len Q B) := by
  have hp0 := hp 0 hlen
  have hq0 := (hb 0 hlen).c2
  have hl : ((len : Int) == 0) = false := by simp; omega
  have hl0 : (0 : Int) < (len : Int) := by omega
  have hnl : decide (t < Q 0) = false := by simp; omega
  have hwl : IntKind.u64.wrap (len : Int) = (len : Int) := by rw [IntKind.wrap_u64]; omega
  by_cases hjl : j < len
  · have hpj := hp j hjl
    have hqj := (hb j hjl).c2
    have hjd : decide ((len : Int) ≤ (j : Int)) = false := by simp; omega
    have hji : (j : Int) < (len : Int) := by omega
    by_cases hq : Q j = t
    · have hqq : (Q j != t) = false := by simp [hq]
      have HQ : Hid (Q j = t) := hq
      clear hq
      go_enter Try.func28, Try.ntmps28
      go_wp2
      go_quiet (fail)
      go_wp2
      go_quiet (fail)
      go_wp2
      go_quiet (fail)
      go_wp2
      go_ret
      exact Nexty.yes rfl ⟨_, rfl⟩ hjl hj HQ.out
    · have hqq : (Q j != t) = true := by simp [hq]
      go_enter Try.func28, Try.ntmps28
      go_wp2
      go_quiet (fail)
      go_wp2
      go_quiet (fail)
      go_wp2
      go_quiet (fail)
      go_wp2
      go_ret
      exact Nexty.no rfl (draws3 _ _ _ _) (fun h => hq (by have := h.2.2.2; rwa [hj, Int.toNat_natCast] at this))
  · have hjd : (len : Int) ≤ (j : Int) := by omega
    go_enter Try.func28, Try.ntmps28
    go_wp2
    go_quiet (fail)
    go_wp2
    go_quiet (fail)
    go_wp2
    go_quiet (fail)
    go_wp2
    go_ret
    exact Nexty.no rfl (draws3 _ _ _ _) (by omega)

theorem next28 (r : Nat) (d t : Int) (a : Option Addr) (len cap : Nat) (S Q : Nat → Int) (B : Nat → Nat) (w : World) (ht : IntKind.u64.wrap (d + 1) = t) (hQ : ∀ i, i < len → 0 ≤ Q i) (hmax : len ≤ 1048576)
    (h0 : w.cell? ⟨r, 0, none⟩ = some (.int .u64 d)) (h1 : w.cell? ⟨r, 1, none⟩ = some (.slice a len cap)) (hK : Kept w a len S Q B) :
    Calls Try.prog 28 #[.pointer (some ⟨r, 0, none⟩)] w (Nexty w t len Q B) := by
  have ht0 : 0 ≤ t := by rw [← ht, IntKind.wrap_u64]; omega
  have ht1 : t ≤ 18446744073709551615 := by rw [← ht, IntKind.wrap_u64]; omega
  by_cases hz : len = 0
  · subst hz
    exact next28_zero r d t a cap Q B w h0 h1
  · rcases hK with hK | ⟨g, rfl, _, hp, hb⟩
    · exact absurd hK hz
    · by_cases hl : t < Q 0
      · exact next28_less r d t g len cap S Q B w ht (by omega) hmax h0 h1 hp hb hl
      · exact next28_more r d t g len cap (t - Q 0).toNat S Q B w ht ht0 ht1 (hQ 0 (by omega)) (by omega) hmax h0 h1 hp hb (by omega)

theorem Try.info49 : (Try.prog.info? 49).map (·.size) = some 5 := by kernel_rfl

theorem eql_box {w : World} {a b : Nat} {s q s' q' : Int} (ha : Box w a s q) (hb : Box w b s' q') :
    (binOp .eql 43 (.pointer (some ⟨a, 0, none⟩)) (.pointer (some ⟨b, 0, none⟩))).run Try.prog w = .ok (.bool (a == b)) w := by
  obtain ⟨i, hi, hs⟩ := Option.map_eq_some_iff.1 Try.info49
  obtain ⟨ca, ha'⟩ := ha.blk
  obtain ⟨cb, hb'⟩ := hb.blk
  by_cases h : a = b
  · subst h
    rw [run_eql_ptr_same w _ Try.underlying43 hi]
    simp
  · rw [run_eql_ptr_other w Try.underlying43 hi (by omega) (by intro e; exact h (congrArg Addr.block e)) ha' hb']
    simp [h]

theorem neq_box (w : World) (a : Nat) : (binOp .neq 43 (.pointer (some ⟨a, 0, none⟩)) (.pointer (some ⟨a, 0, none⟩))).run Try.prog w = .ok (.bool false) w := by
  obtain ⟨i, hi, hs⟩ := Option.map_eq_some_iff.1 Try.info49
  exact Lib.run_neq_ptr_same w _ Try.underlying43 hi

def Zexty (w : World) (t : Int) (len : Nat) (Q : Nat → Int) (B : Nat → Nat) (e : Ending) (w' : World) : Prop :=
  e = .returned (.pointer (nh t len Q B)) ∧ Below w.heap.size w w'

theorem Kept.below {w w' : World} {a : Option Addr} {len : Nat} {S Q : Nat → Int} {B : Nat → Nat} (h : Kept w a len S Q B) (hb : Below w.heap.size w w') : Kept w' a len S Q B := by
  rcases h with h | ⟨g, ha, hg, hp, hx⟩
  · exact .inl h
  · exact .inr ⟨g, ha, Nat.lt_of_lt_of_le hg hb.size, fun i hi => (hb.cell (by exact hg)).trans (hp i hi), fun i hi => ⟨Nat.lt_of_lt_of_le (hx i hi).lt hb.size, (by obtain ⟨c, hc⟩ := (hx i hi).blk; exact ⟨c, (hb.block _ (hx i hi).lt).trans hc⟩), (hb.cell (by exact (hx i hi).lt)).trans (hx i hi).c1, (hb.cell (by exact (hx i hi).lt)).trans (hx i hi).c2⟩⟩

set_option maxHeartbeats 400000 in
theorem zznext18 (d t p : Int) (a : Option Addr) (len cap : Nat) (S Q : Nat → Int) (B : Nat → Nat) (w : World) (ht : Hid (IntKind.u64.wrap (d + 1) = t)) (hQ : ∀ i, i < len → 0 ≤ Q i) (hmax : len ≤ 1048576) (hK : Kept w a len S Q B) :
    Calls Try.prog 18 #[.int .u64 d, .slice a len cap, .int .u64 p] w (Zexty w t len Q B) := by
  go_enter Try.func18, Try.ntmps18
  go_wp2_with fail
  refine (next28 w.heap.size d t a len cap S Q B _ ht.out hQ hmax (by simp) (by simp) (hK.below ((Below.refl _ _).alloc (Nat.le_refl _) _))).mono ?_
  rintro e w1 ⟨rfl, n, rfl⟩
  go_wp2
  go_ret
  exact ⟨rfl, below_drewN ((Below.refl _ _).alloc (Nat.le_refl _) _) n⟩

/-- nextHeld answers nil, or the message at its place. -/
theorem nh_cases (t : Int) (len : Nat) (Q : Nat → Int) (B : Nat → Nat) :
    (nh t len Q B = none ∧ ¬ (0 < len ∧ Q 0 ≤ t ∧ (t - Q 0).toNat < len ∧ Q (t - Q 0).toNat = t)) ∨ ∃ j, j < len ∧ t - Q 0 = (j : Int) ∧ Q j = t ∧ nh t len Q B = some ⟨B j, 0, none⟩ := by
  unfold nh
  by_cases h : 0 < len ∧ Q 0 ≤ t ∧ (t - Q 0).toNat < len ∧ Q (t - Q 0).toNat = t
  · exact .inr ⟨(t - Q 0).toNat, h.2.2.1, by omega, h.2.2.2, by rw [if_pos h]⟩
  · exact .inl ⟨by rw [if_neg h], h⟩

/-- It returns true; nothing that was there has turned. -/
def Truly (w : World) (e : Ending) (w' : World) : Prop := e = .returned (.bool true) ∧ Below w.heap.size w w'

theorem run_on {len : Nat} {Q : Nat → Int} (h : ∀ j, j + 1 < len → Q (j + 1) = Q j + 1) : ∀ j, j < len → Q j = Q 0 + j
  | 0, _ => by omega
  | j + 1, hj => by
    have := run_on h j (by omega)
    have := h j hj
    omega

end Go.Proofs.Qxb6604164a
