/-
  THE WALKS OF zzHasSuffix (11), zzSplitCAName (7), caCommonName (10), ZZcaCommonName (6), the test of size (5), FnCaCommonNameRoundTrip (3).
-/
import Derived.Test.Qxb6604502aRows
import Derived.Test.Qxb6604502aParts
import Derived.WalkKit
import Derived.WalkSpells
import Derived.WalkLawsBesides
import Derived.Deep.QuietTactic
import Derived.BigQuiet
namespace Go.Proofs.Qxb6604502a
open Go.RowKit

/-- It returns a bool, true just where R; of the tape alone something was drawn. -/
def Suffy (w : World) (R : Prop) (e : Ending) (w' : World) : Prop := ∃ b, e = .returned (.bool b) ∧ (∃ n, w' = w.drewN n) ∧ (b = true ↔ R)

set_option maxHeartbeats 400000 in
theorem suf11 (s t : ByteArray) (n : Nat) (w : World) (hs : s.size ≤ 1000000) (hn : (s.size : Int) - (t.size : Int) = (n : Int)) :
    Calls Try.prog 11 #[.string s, .string t] w (Suffy w (At s n t.data.toList)) := by
  have hz : t.data.toList.length = t.size := by simp
  have HZ : Hid (t.data.toList.length = t.size) := hz
  clear hz
  go_enter Try.func11, Try.ntmps11
  go_wp2
  go_loopw [6] (fun i wr => ∃ k : Nat, k ≤ t.size ∧ i = .int .i64 k ∧ (∃ m, wr = w.drewN m) ∧ Hid (∀ i, i < k → s.data.toList.getD (n + i) 0 = t.data.toList.getD i 0)) (fun i _ => t.size - (intOf i).toNat)
  case atStart => exact ⟨0, Nat.zero_le _, rfl, ⟨0, rfl⟩, fun i hi => absurd hi (Nat.not_lt_zero _)⟩
  case round =>
    obtain ⟨k, hk, rfl, ⟨m, rfl⟩, HP⟩ := hrel
    by_cases hlt : k < t.size
    · have h1 : n + k < s.size := by omega
      have h2 : (n : Int) + (k : Int) < (s.size : Int) := by omega
      have h3 : (k : Int) < (t.size : Int) := by omega
      have h4 : 0 ≤ (n : Int) + (k : Int) := by omega
      have hw : IntKind.i64.wrap ((n : Int) + (k : Int)) = (n : Int) + (k : Int) := by rw [IntKind.wrap_i64]; omega
      go_wp2
      go_quiet (fail)
      go_wp2
      · have hne := byte_ne h1 hlt (by assumption)
        go_ret
        exact ⟨false, rfl, ⟨m + nq, by simp⟩, by simp; exact fun h => hne (h k (by rw [HZ.out]; exact hlt))⟩
      · have he := byte_eq h1 hlt (by assumption)
        refine ⟨⟨k + 1, by omega, by go_num, ⟨m + nq, rfl⟩, fun i hi => ?_⟩, by simp [intOf]; omega⟩
        by_cases hik : i < k
        · exact HP.out i hik
        · obtain rfl : i = k := by omega
          exact he
    · go_wp2
      go_ret
      exact ⟨true, rfl, ⟨m, rfl⟩, by simp; exact fun i hi => HP.out i (by rw [HZ.out] at hi; omega)⟩

/-- It returns this; of the tape alone something was drawn. -/
def Gives (w : World) (v : Value) (e : Ending) (w' : World) : Prop := e = .returned v ∧ ∃ n, w' = w.drewN n

set_option maxHeartbeats 400000 in
theorem split7_root (s : ByteArray) (n : Nat) (w : World) (hs : s.size ≤ 1000000) (hn : (s.size : Int) - 15 = (n : Int)) (hat : At s n rootS) :
    Calls Try.prog 7 #[.string s] w (Gives w (.tuple #[.string (s.extract 0 n), .bool true, .bool true])) := by
  have HAT : Hid (At s n rootS) := hat
  clear hat
  go_enter Try.func7, Try.ntmps7
  go_wp2_with fail
  refine (suf11 s _ n w hs (by exact hn)).mono ?_
  rintro e w1 ⟨b, rfl, ⟨m, rfl⟩, hb⟩
  have hb1 : b = true := hb.2 HAT.out
  subst hb1
  clear hb
  go_wp2
  go_ret3
  exact ⟨rfl, m, rfl⟩

set_option maxHeartbeats 400000 in
theorem split7_inter (s : ByteArray) (n : Nat) (w : World) (hs : s.size ≤ 1000000) (hn : (s.size : Int) - 23 = (n : Int)) (hno : ¬ At s (n + 8) rootS) (hat : At s n interS) :
    Calls Try.prog 7 #[.string s] w (Gives w (.tuple #[.string (s.extract 0 n), .bool false, .bool true])) := by
  have HAT : Hid (At s n interS) := hat
  have HNO : Hid (¬ At s (n + 8) rootS) := hno
  clear hat hno
  go_enter Try.func7, Try.ntmps7
  go_wp2_with fail
  refine (suf11 s _ (n + 8) w hs (by show (s.size : Int) - 15 = _; omega)).mono ?_
  rintro e w1 ⟨b, rfl, ⟨m, rfl⟩, hb⟩
  have hb1 : b = false := by
    cases b with
    | false => rfl
    | true => exact absurd (hb.1 rfl) HNO.out
  subst hb1
  clear hb
  go_wp2_with fail
  refine (suf11 s _ n _ hs (by exact hn)).mono ?_
  rintro e w1 ⟨b, rfl, ⟨m', rfl⟩, hb⟩
  have hb1 : b = true := hb.2 HAT.out
  subst hb1
  clear hb
  go_wp2
  go_ret3
  exact ⟨rfl, m + m', by simp⟩

set_option maxHeartbeats 400000 in
theorem ca10_root (o k : ByteArray) (w : World) (_ho : o.size ≤ 65536) (hk : (k.toList == [114, 111, 111, 116]) = true) :
    Calls Try.prog 10 #[.string o, .string k] w (Gives w (.string (o ++ ⟨rootS.toArray⟩))) := by
  go_enter Try.func10, Try.ntmps10
  go_wp2
  go_ret
  exact ⟨rfl, 0, rfl⟩

set_option maxHeartbeats 400000 in
theorem ca10_inter (o k : ByteArray) (w : World) (_ho : o.size ≤ 65536) (hk : (k.toList == [114, 111, 111, 116]) = false) :
    Calls Try.prog 10 #[.string o, .string k] w (Gives w (.string (o ++ ⟨interS.toArray⟩))) := by
  go_enter Try.func10, Try.ntmps10
  go_wp2
  go_ret
  exact ⟨rfl, 0, rfl⟩

set_option maxHeartbeats 400000 in
theorem zz5 (o k : ByteArray) (w : World) (ho : o.size ≤ maxLen) (hk : k.size ≤ maxLen) :
    Calls Try.prog 5 #[.string o, .string k] w fun e w' => (e = .returned (.bool false) ∨ e = .returned (.bool true)) ∧ w' = w := by
  unfold maxLen at ho hk
  go_enter Try.func5, Try.ntmps5
  go_wp2
  all_goals go_ret
  all_goals simp

set_option maxHeartbeats 400000 in
theorem zzca6 (o k x : ByteArray) (w : World) (h : ∀ w, Calls Try.prog 10 #[.string o, .string k] w (Gives w (.string x))) :
    Calls Try.prog 6 #[.string o, .string k] w (Gives w (.string x)) := by
  have H : Hid (∀ w, Calls Try.prog 10 #[.string o, .string k] w (Gives w (.string x))) := h
  clear h
  go_enter Try.func6, Try.ntmps6
  go_wp2_with fail
  refine (H.out _).mono ?_
  rintro e w1 ⟨rfl, m, rfl⟩
  go_wp2
  go_ret
  exact ⟨rfl, m, rfl⟩

set_option maxHeartbeats 400000 in
theorem law3 (o k : ByteArray) (w : World) (ho : o.size ≤ maxLen) (hk : k.size ≤ maxLen) :
    Calls Try.prog 3 #[.string o, .string k] w (Gives w (.bool true)) := by
  have ho' := ho
  have hk' := hk
  unfold maxLen at ho' hk'
  go_enter Try.func3, Try.ntmps3
  go_wp2_with fail
  refine (zz5 o k _ ho hk).mono ?_
  rintro e w1 ⟨he, hw⟩
  subst hw
  rcases he with rfl | rfl
  · go_wp2
    go_ret
    exact ⟨rfl, 0, rfl⟩
  by_cases h1 : 65536 < o.size
  · have h1' : (65536 : Int) < (o.size : Int) := by omega
    go_wp2_with fail
    go_ret
    exact ⟨rfl, 0, rfl⟩
  have h1' : decide ((65536 : Int) < (o.size : Int)) = false := by simp; omega
  by_cases h2 : 65536 < k.size
  · have h2' : (65536 : Int) < (k.size : Int) := by omega
    go_wp2_with fail
    go_ret
    exact ⟨rfl, 0, rfl⟩
  have h2' : decide ((65536 : Int) < (k.size : Int)) = false := by simp; omega
  by_cases hr : (k.toList == [114, 111, 111, 116]) = true
  · go_wp2_with fail
    refine (zzca6 o k _ _ (fun w => ca10_root o k w (by omega) hr)).mono ?_
    rintro e w2 ⟨rfl, m, rfl⟩
    have e1 : (o ++ ⟨rootS.toArray⟩ : ByteArray).size = o.size + 15 := size_root o
    have H7 := fun w => split7_root (o ++ ⟨rootS.toArray⟩) o.size w (by omega) (by omega) (at_append o ⟨rootS.toArray⟩)
    rw [extract_append] at H7
    generalize (o ++ ⟨rootS.toArray⟩ : ByteArray) = x at *
    have H := H7
    clear H7
    go_wp2_with fail
    refine (H _).mono ?_
    rintro e w3 ⟨rfl, m', rfl⟩
    go_wp2
    go_ret
    exact ⟨by simp, m + m', by simp⟩
  · have hr' : (k.toList == [114, 111, 111, 116]) = false := by simpa using hr
    go_wp2_with fail
    refine (zzca6 o k _ _ (fun w => ca10_inter o k w (by omega) hr')).mono ?_
    rintro e w2 ⟨rfl, m, rfl⟩
    have e1 : (o ++ ⟨interS.toArray⟩ : ByteArray).size = o.size + 23 := size_inter o
    have H7 := fun w => split7_inter (o ++ ⟨interS.toArray⟩) o.size w (by omega) (by omega) (not_root o) (at_append o ⟨interS.toArray⟩)
    rw [extract_append] at H7
    generalize (o ++ ⟨interS.toArray⟩ : ByteArray) = x at *
    have H := H7
    clear H7
    go_wp2_with fail
    refine (H _).mono ?_
    rintro e w3 ⟨rfl, m', rfl⟩
    go_wp2
    go_ret
    exact ⟨by simp, m + m', by simp⟩

end Go.Proofs.Qxb6604502a
