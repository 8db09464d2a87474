/-
  THE WALK OF FnCheckCRLNumberSpec (3).
-/
import Derived.Test.Qxb6604502aDoorClone
namespace Go.Proofs.Qxb6604502aDoor
open Go.RowKit
set_option linter.unusedVariables false

/-- The verdict behind the places from k on. -/
def VD (n : Nat) (f : Nat → Bool) (C : Nat → Bool) (k : Nat) (v : Int) : Prop :=
  (v = 0 ∧ ∀ i, k ≤ i → i < n → f i = false) ∨ ∃ j, k ≤ j ∧ j < n ∧ f j = true ∧ (∀ i, k ≤ i → i < j → f i = false) ∧ v = if C j then 2 else 1

theorem VD.start (n : Nat) (f C : Nat → Bool) : VD n f C n 0 := .inl ⟨rfl, fun i h1 h2 => by omega⟩
theorem VD.skip {n : Nat} {f C : Nat → Bool} {k : Nat} {v : Int} (h : VD n f C (k + 1) v) (hf : f k = false) : VD n f C k v := by
  rcases h with ⟨h1, h2⟩ | ⟨j, h1, h2, h3, h4, h5⟩
  · refine .inl ⟨h1, fun i hi hn => ?_⟩
    by_cases e : i = k
    · subst e; exact hf
    · exact h2 i (by omega) hn
  · refine .inr ⟨j, by omega, h2, h3, fun i hi hj => ?_, h5⟩
    by_cases e : i = k
    · subst e; exact hf
    · exact h4 i (by omega) hj
theorem VD.hit {n : Nat} {f C : Nat → Bool} {k : Nat} (hk : k < n) (hf : f k = true) {v : Int} (hv : v = if C k then 2 else 1) : VD n f C k v :=
  .inr ⟨k, Nat.le_refl _, hk, hf, fun i h1 h2 => by omega, hv⟩
theorem VD.yes {n : Nat} {IL : Nat → Nat} {C : Nat → Bool} {Z : Nat → Nat → Int} {v : Int} (h : VD n (fun i => crlB (IL i) (Z i)) C 0 v) (ha : Acc n IL C Z) : (v == 1) = true := by
  obtain ⟨k, hk, hc⟩ := ha
  rcases h with ⟨_, h2⟩ | ⟨j, _, h2, h3, h4, h5⟩
  · have := h2 k (Nat.zero_le _) hk.1
    have h' := hk.2.1
    simp only at this h'
    rw [this] at h'
    cases h'
  · have e : j = k := first_one (n := n) (f := fun i => crlB (IL i) (Z i)) ⟨h2, h3, fun i hi => h4 i (Nat.zero_le _) hi⟩ hk
    subst e
    rw [h5, hc]
    rfl
theorem VD.no {n : Nat} {IL : Nat → Nat} {C : Nat → Bool} {Z : Nat → Nat → Int} {v : Int} (h : VD n (fun i => crlB (IL i) (Z i)) C 0 v) (ha : ¬ Acc n IL C Z) : (v == 1) = false := by
  rcases h with ⟨h1, _⟩ | ⟨j, _, h2, h3, h4, h5⟩
  · rw [h1]; rfl
  · cases hc : C j
    · exact absurd ⟨j, ⟨h2, h3, fun i hi => h4 i (Nat.zero_le _) hi⟩, hc⟩ ha
    · rw [h5, hc]; rfl

/-- It returns true; nothing that was there has turned. -/
def Truly (w : World) (e : Ending) (w' : World) : Prop := e = .returned (.bool true) ∧ Below w.heap.size w w'

set_option maxHeartbeats 2000000 in
theorem law3 (a b o : Option Addr) (n c m c' oc : Nat) (IA : Nat → Option Addr) (IL IC : Nat → Nat) (Z : Nat → Nat → Int) (C : Nat → Bool) (w : World) (hn : n ≤ maxLen) (hm : m ≤ maxLen) (hI : Ids w a n IA IL IC Z) (hL : ∀ i, i < n → IL i ≤ maxLen)
    (h0 : a = none → n = 0) (hN : ∀ i, i < n → IA i = none → IL i = 0) (hB : Bools w b m C) (hb0 : b = none → m = 0) (hO : Oid w o oc) :
    Calls Tryd.prog 3 #[.slice a n c, .slice b m c'] w (Truly w) := by
  go_enter Tryd.func3, Tryd.ntmps3
  go_wp2_with fail
  refine (zz5 a b n c m c' IA IL IC Z _ hn hm hI hL).mono ?_
  rintro e w1 ⟨bb, rfl, rfl, hR⟩
  cases bb
  · go_wp2
    go_ret
    exact ⟨rfl, Below.refl _ _⟩
  have HL : Hid (∀ i, i < n → IL i ≤ 1048576) := hR rfl
  clear hR hL
  go_wp2_with fail
  refine (size6 a b n c m c' IA IL IC Z _ hn hm hI HL.out).mono ?_
  rintro e w1 ⟨bb, rfl, rfl, hR⟩
  cases bb
  · go_wp2
    go_ret
    exact ⟨rfl, Below.refl _ _⟩
  obtain ⟨hn6, hm6⟩ := hR rfl
  clear hR hn hm
  by_cases hmn : m ≠ n
  · have hd : ((m : Int) != (n : Int)) = true := by rw [bne_iff_ne]; omega
    go_wp2_with fail
    go_ret
    exact ⟨rfl, Below.refl _ _⟩
  obtain rfl : m = n := by omega
  clear hmn
  have hd : ((m : Int) != (m : Int)) = false := by simp
  have HO : Hid (Oid w o oc) := hO
  have HB : Hid (Bools w b m C) := hB
  clear hO hB
  go_wp2_with fail
  refine (clone7 a m c IA IL IC Z _ hn6 hI HL.out h0 hN).mono ?_
  rintro e w1 ⟨a1, A1, K1, rfl, hI1, hb1⟩
  clear hI h0 hN
  go_wp2_with fail
  refine (clone8 b m c' C _ hn6 (HB.out.below hb1) hb0).mono ?_
  rintro e w2 ⟨b1, rfl, hB2, hb2⟩
  have hbb : Below w.heap.size w w2 := hb1.trans (hb2.mono hb1.size)
  have HI2 : Hid (Ids w2 a1 m A1 IL K1 Z) := hI1.below hb2
  have HB2 : Hid (Bools w2 b1 m C) := hB2
  have HO2 : Hid (Oid w2 o oc) := HO.out.below hbb
  clear hI1 hB2 hb1 hb2 HB HO hb0
  go_wp2
  go_loop [5, 6] (fun v i => ∃ k : Nat, ∃ vd : Int, k ≤ m ∧ i = .int .i64 ((k : Int) - 1) ∧ v = .int .i64 vd ∧ Hid (VD m (fun i => crlB (IL i) (Z i)) C k vd)) (fun _ i => ((intOf i) + 1).toNat)
  case atStart => exact ⟨m, 0, Nat.le_refl _, rfl, rfl, VD.start _ _ _⟩
  case round =>
    obtain ⟨k, vd, hk, rfl, rfl, HV⟩ := hrel
    cases k with
    | zero =>
      go_wp2_with fail
      refine (zz10 a1 b1 o m m m oc A1 IL K1 C Z _ (by omega) HI2.out HL.out HB2.out HO2.out).mono ?_
      rintro e w3 ⟨hb3, hc⟩
      have HBZ : Hid (Below w.heap.size w w3) := hbb.trans (hb3.mono hbb.size)
      clear hb3 hbb
      rcases hc with ⟨rfl, hr⟩ | ⟨b', rfl, hr⟩
      · have hv := VD.yes HV.out hr
        clear hr
        go_wp2
        go_ret
        exact ⟨by first | rfl | simp [hv], HBZ.out⟩
      · have hv := VD.no HV.out hr
        clear hr
        go_wp2
        go_ret
        exact ⟨by first | rfl | simp [hv], HBZ.out⟩
    | succ k =>
      have e : ((k + 1 : Nat) : Int) - 1 = (k : Int) := by omega
      rw [e]
      clear e
      rcases HI2.out.out with h | ⟨ib, io, ha, _, hic⟩
      · omega
      rcases HB2.out with h | ⟨bb, bo, hb', _, hbc⟩
      · omega
      subst ha
      subst hb'
      have h1 := hic k (by omega)
      have h2 := hbc k (by omega)
      have hi : (k : Int) < (m : Int) := by omega
      have H9 := is9 (A1 k) (IL k) (K1 k) (Z k) w2 (HL.out k (by omega)) (HI2.out.rows k (by omega))
      have HC9 : Hid (Calls Tryd.prog 9 #[.slice (A1 k) (IL k) (K1 k)] w2 fun e w' => e = .returned (.bool (crlB (IL k) (Z k))) ∧ w2 = w') := H9
      clear H9 hic hbc
      cases hcb : crlB (IL k) (Z k)
      · rw [hcb] at HC9
        have HX : Hid (crlB (IL k) (Z k) = false) := hcb
        clear hcb
        go_wp2_with fail
        refine (HC9.out).mono ?_
        rintro e wz ⟨rfl, rfl⟩
        go_wp2
        go_round
        case rel => exact ⟨k, vd, by omega, by go_num, rfl, VD.skip HV.out HX.out⟩
        case measure => simp [intOf]
      · rw [hcb] at HC9
        have HX : Hid (crlB (IL k) (Z k) = true) := hcb
        clear hcb
        cases hck : C k
        · rw [hck] at h2
          have HCK : Hid (C k = false) := hck
          clear hck
          go_wp2_with fail
          refine (HC9.out).mono ?_
          rintro e wz ⟨rfl, rfl⟩
          go_wp2
          go_round
          case rel => exact ⟨k, 1, by omega, by go_num, rfl, VD.hit (by omega) HX.out (by rw [HCK.out]; rfl)⟩
          case measure => simp [intOf]
        · rw [hck] at h2
          have HCK : Hid (C k = true) := hck
          clear hck
          go_wp2_with fail
          refine (HC9.out).mono ?_
          rintro e wz ⟨rfl, rfl⟩
          go_wp2
          go_round
          case rel => exact ⟨k, 2, by omega, by go_num, rfl, VD.hit (by omega) HX.out (by rw [HCK.out]; rfl)⟩
          case measure => simp [intOf]

end Go.Proofs.Qxb6604502aDoor
