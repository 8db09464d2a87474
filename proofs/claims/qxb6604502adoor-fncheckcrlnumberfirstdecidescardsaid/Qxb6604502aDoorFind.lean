/-
  THE WALKS OF slices.IndexFunc (15), findExtension (13).
-/
import Derived.Test.Qxb6604502aDoorBase
namespace Go.Proofs.Qxb6604502aDoor
open Go.RowKit
set_option linter.unusedVariables false

/-- n extensions lie in block g, three cells each; the identifiers' own cells. -/
structure Exts (w : World) (g n : Nat) (IA : Nat → Option Addr) (IL IC : Nat → Nat) (C : Nat → Bool) (Z : Nat → Nat → Int) : Prop where
  lt : g < w.heap.size
  c0 : ∀ i, i < n → w.cell? ⟨g, i * 3, none⟩ = some (.slice (IA i) (IL i) (IC i))
  c1 : ∀ i, i < n → w.cell? ⟨g, i * 3 + 1, none⟩ = some (.bool (C i))
  c2 : ∀ i, i < n → w.cell? ⟨g, i * 3 + 2, none⟩ = some (.slice none 0 0)
  rows : ∀ i, i < n → Ints w (IA i) (IL i) (Z i)
  len : ∀ i, i < n → IL i ≤ 1048576

theorem Exts.below {w w' : World} {g n : Nat} {IA : Nat → Option Addr} {IL IC : Nat → Nat} {C : Nat → Bool} {Z : Nat → Nat → Int} (h : Exts w g n IA IL IC C Z) (hb : Below w.heap.size w w') : Exts w' g n IA IL IC C Z :=
  ⟨Nat.lt_of_lt_of_le h.lt hb.size, fun i hi => (hb.cell (by exact h.lt)).trans (h.c0 i hi), fun i hi => (hb.cell (by exact h.lt)).trans (h.c1 i hi), fun i hi => (hb.cell (by exact h.lt)).trans (h.c2 i hi), fun i hi => (h.rows i hi).below hb, h.len⟩

/-- The first i below n at which f is true. -/
def First (n : Nat) (f : Nat → Bool) (k : Nat) : Prop := k < n ∧ f k = true ∧ ∀ i, i < k → f i = false

def Idx (w : World) (n : Nat) (f : Nat → Bool) (e : Ending) (w' : World) : Prop :=
  Below w.heap.size w w' ∧ ((e = .returned (.int .i64 (-1)) ∧ ∀ i, i < n → f i = false) ∨ ∃ k : Nat, e = .returned (.int .i64 k) ∧ First n f k)

set_option maxHeartbeats 1000000 in
theorem idx15 (g n cap rb oc : Nat) (o : Option Addr) (IA : Nat → Option Addr) (IL IC : Nat → Nat) (C : Nat → Bool) (Z : Nat → Nat → Int) (w : World) (hn : n ≤ 1048576) (hX : Exts w g n IA IL IC C Z) (hO : Ints w o 4 oidZ) (hr : w.cell? ⟨rb, 0, none⟩ = some (.slice o 4 oc)) (hrb : rb < w.heap.size) :
    Calls Tryd.prog 15 #[.slice (some ⟨g, 0, none⟩) n cap, .func (.func 16) #[] #[.pointer (some ⟨rb, 0, none⟩)]] w (Idx w n (fun i => crlB (IL i) (Z i))) := by
  have HX : Hid (Exts w g n IA IL IC C Z) := hX
  have HO : Hid (Ints w o 4 oidZ) := hO
  clear hX hO
  go_enter Tryd.func15, Tryd.ntmps15
  go_wp2
  go_loopw [8] (fun i wr => ∃ k : Nat, k ≤ n ∧ i = .int .i64 k ∧ Below w.heap.size w wr ∧ Hid (∀ i, i < k → crlB (IL i) (Z i) = false)) (fun i _ => n - (intOf i).toNat)
  case atStart => exact ⟨0, Nat.zero_le _, rfl, Below.refl _ _, fun i hi => absurd hi (Nat.not_lt_zero _)⟩
  case round =>
    obtain ⟨k, hk, rfl, hbel, HP⟩ := hrel
    by_cases hlt : k < n
    · have hx := HX.out.below hbel
      have h0 := hx.c0 k hlt
      have h1 := hx.c1 k hlt
      have h2 := hx.c2 k hlt
      have hi : (k : Int) < (n : Int) := by omega
      have hc := clo16 (IA k) none o (IL k) (IC k) 0 0 oc rb (C k) (Z k) wr (hx.len k hlt) (hx.rows k hlt) (HO.out.below hbel) ((hbel.cell (by exact hrb)).trans hr) (Nat.lt_of_lt_of_le hrb hbel.size)
      have HC : Hid (Calls Tryd.prog 16 #[.agg #[.slice (IA k) (IL k) (IC k), .bool (C k), .slice none 0 0], .pointer (some ⟨rb, 0, none⟩)] wr (Says wr (crlB (IL k) (Z k)))) := hc
      clear hx hc
      go_wp2_with fail
      refine (HC.out).mono ?_
      rintro e w1 ⟨he, hb1⟩
      have hbe : Below w.heap.size w w1 := hbel.trans (hb1.mono hbel.size)
      clear hb1 hbel
      cases hcb : crlB (IL k) (Z k)
      · rw [hcb] at he
        subst he
        have HX' : Hid (crlB (IL k) (Z k) = false) := hcb
        clear hcb HC
        go_wp2
        go_roundw
        case rel =>
          refine ⟨k + 1, by omega, by go_num, hbe, fun i hi => ?_⟩
          by_cases hik : i < k
          · exact HP.out i hik
          · obtain rfl : i = k := by omega
            exact HX'.out
        case measure => simp [intOf]; omega
      · rw [hcb] at he
        subst he
        have HX' : Hid (crlB (IL k) (Z k) = true) := hcb
        clear hcb HC
        go_wp2
        go_ret
        exact ⟨hbe, .inr ⟨k, rfl, hlt, HX'.out, HP.out⟩⟩
    · go_wp2
      go_ret
      exact ⟨hbel, .inl ⟨rfl, fun i hi => HP.out i (by omega)⟩⟩

/-- findExtension's answer. -/
def Found (w : World) (n : Nat) (IA : Nat → Option Addr) (IL IC : Nat → Nat) (C : Nat → Bool) (Z : Nat → Nat → Int) (e : Ending) (w' : World) : Prop :=
  Below w.heap.size w w' ∧ ((e = .returned (.tuple #[.agg #[.slice none 0 0, .bool false, .slice none 0 0], .bool false]) ∧ ∀ i, i < n → crlB (IL i) (Z i) = false) ∨
    ∃ k, First n (fun i => crlB (IL i) (Z i)) k ∧ e = .returned (.tuple #[.agg #[.slice (IA k) (IL k) (IC k), .bool (C k), .slice none 0 0], .bool true]))

set_option maxHeartbeats 1000000 in
theorem find13 (g n cap oc : Nat) (o : Option Addr) (IA : Nat → Option Addr) (IL IC : Nat → Nat) (C : Nat → Bool) (Z : Nat → Nat → Int) (w : World) (hn : n ≤ 1048576) (hX : Exts w g n IA IL IC C Z) (hO : Ints w o 4 oidZ) :
    Calls Tryd.prog 13 #[.slice (some ⟨g, 0, none⟩) n cap, .slice o 4 oc] w (Found w n IA IL IC C Z) := by
  have HX : Hid (Exts w g n IA IL IC C Z) := hX
  have HO : Hid (Ints w o 4 oidZ) := hO
  clear hX hO
  go_enter Tryd.func13, Tryd.ntmps13
  go_wp2_with fail
  have hb1 : Below w.heap.size w ((w.alloc (.cells #[.slice o 4 oc] 34)).alloc (.cells #[.slice none 0 0, .bool false, .slice none 0 0] 37)) := ((Below.refl _ _).alloc (Nat.le_refl _) _).alloc (by simp) _
  refine (idx15 g n cap w.heap.size oc o IA IL IC C Z _ hn (HX.out.below hb1) (HO.out.below hb1) (by simp) (by simp only [World.size_alloc]; omega)).mono ?_
  rintro e w1 ⟨hb2, hcase⟩
  have hsz : w.heap.size + 2 ≤ w1.heap.size := by have := hb2.size; simp at this; omega
  have q0 : w1.cell? ⟨w.heap.size + 1, 0, none⟩ = some (.slice none 0 0) := (hb2.cell (p := ⟨w.heap.size + 1, 0, none⟩) (by simp)).trans (by simp)
  have q1 : w1.cell? ⟨w.heap.size + 1, 1, none⟩ = some (.bool false) := (hb2.cell (p := ⟨w.heap.size + 1, 1, none⟩) (by simp)).trans (by simp)
  have q2 : w1.cell? ⟨w.heap.size + 1, 2, none⟩ = some (.slice none 0 0) := (hb2.cell (p := ⟨w.heap.size + 1, 2, none⟩) (by simp)).trans (by simp)
  have fz : ∀ o, w1.frozen? ⟨w.heap.size + 1, o, none⟩ = false := fun o => (hb2.frozen (p := ⟨w.heap.size + 1, o, none⟩) (by simp)).trans (by simp)
  have hbe : Below w.heap.size w w1 := hb1.trans (hb2.mono (by simp; omega))
  clear hb1 hb2
  rcases hcase with ⟨rfl, hall⟩ | ⟨k, rfl, hk, hf, ha⟩
  · have HA : Hid (∀ i, i < n → crlB (IL i) (Z i) = false) := hall
    clear hall
    go_wp2
    refine bodyPost_ret (v := .tuple #[.agg #[.slice none 0 0, .bool false, .slice none 0 0], .bool false]) (by simp [results, Tryd.results13, go_sem, q0, q1, q2]) rfl ⟨?_, .inl ⟨rfl, HA.out⟩⟩
    exact ((hbe.setCell (by show w.heap.size ≤ w.heap.size + 1; omega) _).setCell (by show w.heap.size ≤ w.heap.size + 1; omega) _).setCell (by show w.heap.size ≤ w.heap.size + 1; omega) _
  · have HA : Hid (First n (fun i => crlB (IL i) (Z i)) k) := ⟨hk, hf, ha⟩
    have hx := HX.out.below hbe
    have x0 := hx.c0 k hk
    have x1 := hx.c1 k hk
    have x2 := hx.c2 k hk
    have hi : (k : Int) < (n : Int) := by omega
    have hneg : decide ((k : Int) < 0) = false := by simp
    clear hf ha hx
    go_wp2
    refine bodyPost_ret (v := .tuple #[.agg #[.slice (IA k) (IL k) (IC k), .bool (C k), .slice none 0 0], .bool true]) (by simp [results, Tryd.results13, go_sem, q0, q1, q2]) rfl ⟨?_, .inr ⟨k, HA.out, rfl⟩⟩
    exact ((hbe.setCell (by show w.heap.size ≤ w.heap.size + 1; omega) _).setCell (by show w.heap.size ≤ w.heap.size + 1; omega) _).setCell (by show w.heap.size ≤ w.heap.size + 1; omega) _

end Go.Proofs.Qxb6604502aDoor
