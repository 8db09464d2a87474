/-
  THE WALK OF FnNextHeldDrainsTheRunPastDelivered (6).
-/
import Derived.Test.Qxb6604164aBytes
import Derived.Test.Qxb6604164aLeft
import Derived.Test.Qxb6604164aNext
namespace Go.Proofs.Qxb6604164a
open Go.RowKit

/-- Behind c deliveries (of m) the member has delivered dd, t comes next. -/
def Drained (n j c : Nat) (dd t : Int) (Q : Nat → Int) : Prop :=
  IntKind.u64.wrap (dd + 1) = t ∧ (j + c ≤ n → t = Q (j + c)) ∧ (j + c = n + 1 → dd = Q n)

theorem Drained.start {n j : Nat} {d t : Int} {Q : Nat → Int} (hj : j ≤ n) (ht : IntKind.u64.wrap (d + 1) = t) (h : Q j = t) : Drained n j 0 d t Q :=
  ⟨ht, fun _ => h.symm, fun h => by omega⟩

theorem Drained.step {n j c : Nat} {Q : Nat → Int} (_hc : j + c ≤ n) (hQ : ∀ i, i < n + 1 → 0 ≤ Q i ∧ Q i ≤ 18446744073709551615) (hC : ∀ i, i < n + 1 → Q i = Q 0 + i) : Drained n j (c + 1) (Q (j + c)) (IntKind.u64.wrap (Q (j + c) + 1)) Q := by
  refine ⟨rfl, fun h => ?_, fun h => ?_⟩
  · have h1 := hQ (j + (c + 1)) (by omega)
    have h2 := hC (j + (c + 1)) (by omega)
    have h3 := hC (j + c) (by omega)
    have h4 := hQ (j + c) (by omega)
    rw [IntKind.wrap_u64]
    omega
  · rw [show j + c = n by omega]

theorem nh_at {n i : Nat} {Q : Nat → Int} {B : Nat → Nat} (hi : i ≤ n) (hC : ∀ i, i < n + 1 → Q i = Q 0 + i) : nh (Q i) (n + 1) Q B = some ⟨B i, 0, none⟩ := by
  have h := hC i (by omega)
  have e : (Q i - Q 0).toNat = i := by omega
  unfold nh
  rw [if_pos ⟨by omega, by omega, by omega, by rw [e]⟩, e]

theorem nh_end {n : Nat} {Q : Nat → Int} {B : Nat → Nat} (hn : n < 1048576) (hQ : ∀ i, i < n + 1 → 0 ≤ Q i ∧ Q i ≤ 18446744073709551615) (hC : ∀ i, i < n + 1 → Q i = Q 0 + i) : nh (IntKind.u64.wrap (Q n + 1)) (n + 1) Q B = none := by
  have h := hC n (by omega)
  have h0 := hQ 0 (by omega)
  have h1 := hQ n (by omega)
  unfold nh
  rw [if_neg]
  rw [IntKind.wrap_u64]
  omega

set_option maxHeartbeats 1000000 in
theorem law6 (d p : Int) (a : Option Addr) (len cap : Nat) (V S Q T : Nat → Int) (PA : Nat → Option Addr) (PL PC : Nat → Nat) (w : World)
    (hM : Msgs w a len V S Q T PA PL PC) (hlen : len ≤ maxLen) (hPL : ∀ i, i < len → PL i ≤ maxLen) (hPay : ∀ i, i < len → Pay w (PA i) (PL i)) (hQ : ∀ i, i < len → 0 ≤ Q i ∧ Q i ≤ 18446744073709551615) :
    Calls Try.prog 6 #[.int .u64 d, .slice a len cap, .int .u64 p] w (Truly w) := by
  obtain ⟨t, ht0⟩ : ∃ t, IntKind.u64.wrap (d + 1) = t := ⟨_, rfl⟩
  have ht : Hid (IntKind.u64.wrap (d + 1) = t) := ht0
  clear ht0
  go_enter Try.func6, Try.ntmps6
  go_wp2_with fail
  refine (zz20 d p a len cap V S Q T PA PL PC _ hM hlen hPL).mono ?_
  rintro e w1 ⟨bb, rfl, rfl, hR⟩
  cases bb
  · go_wp2
    go_ret
    exact ⟨rfl, Below.refl _ _⟩
  have hPL' := hR rfl
  clear hR
  by_cases hbig : 65536 < len
  · have hb' : (65536 : Int) < (len : Int) := by omega
    go_wp2_with fail
    go_ret
    exact ⟨rfl, Below.refl _ _⟩
  have hb' : decide ((65536 : Int) < (len : Int)) = false := by simp; omega
  go_wp2_with fail
  refine (left15 _ a len cap V S Q T PA PL PC _ hM hlen hPL (by omega) (by omega)).mono ?_
  rintro e w1 ⟨r, rfl, rfl⟩
  by_cases hr : r < 0
  · go_wp2_with fail
    go_ret
    exact ⟨rfl, Below.refl _ _⟩
  have hr' : decide (r < 0) = false := by simpa using hr
  go_wp2_with fail
  refine (cons16 a len cap V S Q T PA PL PC _ hM hlen hQ).mono ?_
  rintro e w1 ⟨bb, rfl, ⟨n1, rfl⟩, hC⟩
  cases bb
  · go_wp2
    go_ret
    exact ⟨rfl, below_drewN (Below.refl _ _) _⟩
  have HC : Hid (∀ j, j < len → Q j = Q 0 + j) := run_on (hC rfl)
  clear hC
  have hbd : Below w.heap.size w (w.drewN n1) := below_drewN (Below.refl _ _) _
  go_wp2_with fail
  refine (data17 a len cap V S Q T PA PL PC _ (hM.below hbd) (by omega) hPL' (fun i hi => (hPay i hi).below hbd)).mono ?_
  rintro e w2 ⟨a1, B, rfl, hK, hb1⟩
  clear hM hPL hPay hPL'
  have hbb : Below w.heap.size w w2 := hbd.trans hb1
  clear hb1 hbd
  by_cases hz : len = 0
  · subst hz
    go_wp2
    go_loopw [8, 9] (fun x c wr => x = .int .u64 d ∧ c = .int .i64 0 ∧ Kept wr a1 0 S Q B ∧ Below w.heap.size w wr) (fun _ _ _ => 0)
    case atStart => exact ⟨rfl, rfl, hK, hbb⟩
    case round =>
      obtain ⟨rfl, rfl, hKr, hbr⟩ := hrel
      have hn : nh t 0 Q B = none := by unfold nh; rw [if_neg (by omega)]
      go_wp2_with fail
      refine (zznext18 d t p a1 0 0 S Q B _ ht (fun i hi => (hQ i hi).1) (by omega) hKr).mono ?_
      rintro e w3 ⟨rfl, hb2⟩
      rw [hn]
      have hbe := hbr.trans (hb2.mono hbr.size)
      clear hn hKr hbr hb2
      go_wp2
      go_ret
      exact ⟨rfl, hbe⟩
  obtain ⟨n, rfl⟩ : ∃ n, len = n + 1 := ⟨len - 1, by omega⟩
  have hqn := hQ n (by omega)
  have hq0 := hQ 0 (by omega)
  have Hn := HC.out n (by omega)
  have HQ : Hid (∀ i, i < n + 1 → 0 ≤ Q i ∧ Q i ≤ 18446744073709551615) := hQ
  have hkey : Hid (∀ wr, Kept wr a1 (n + 1) S Q B → ∃ g, a1 = some ⟨g, 0, none⟩ ∧ (∀ i, i < n + 1 → wr.cell? ⟨g, i, none⟩ = some (.pointer (some ⟨B i, 0, none⟩))) ∧ ∀ i, i < n + 1 → wr.cell? ⟨B i, 2, none⟩ = some (.int .u64 (Q i))) := fun wr h => by
    rcases h with h | ⟨g, h1, _, h2, h3⟩
    · exact absurd h hz
    · exact ⟨g, h1, h2, fun i hi => (h3 i hi).c2⟩
  clear hQ
  rcases nh_cases t (n + 1) Q B with ⟨hn, hno⟩ | ⟨j, hjl, hj0, hqj, hn⟩
  · have hout : t < Q 0 ∨ (Q 0 ≤ t ∧ Q n < t) := by
      rcases Int.lt_or_le t (Q 0) with h | h
      · exact .inl h
      · refine .inr ⟨h, ?_⟩
        rcases Int.lt_or_le (Q n) t with h' | h'
        · exact h'
        · have hi := HC.out (t - Q 0).toNat (by omega)
          exact absurd ⟨by omega, h, by omega, by omega⟩ hno
    have HO : Hid (t < Q 0 ∨ (Q 0 ≤ t ∧ Q n < t)) := hout
    have HN : Hid (nh t (n + 1) Q B = none) := hn
    have HNN : Hid (Q n = Q 0 + n) := Hn
    clear hout hn hno Hn
    go_wp2
    go_loopw [8, 9] (fun x c wr => x = .int .u64 d ∧ c = .int .i64 0 ∧ Kept wr a1 (n + 1) S Q B ∧ Below w.heap.size w wr) (fun _ _ _ => 0)
    case atStart => exact ⟨rfl, rfl, hK, hbb⟩
    case round =>
      obtain ⟨rfl, rfl, hKr, hbr⟩ := hrel
      go_wp2_with fail
      refine (zznext18 d t p a1 (n + 1) (n + 1) S Q B _ ht (fun i hi => (HQ.out i hi).1) (by omega) hKr).mono ?_
      rintro e w3 ⟨rfl, hb2⟩
      rw [HN.out]
      have hbe := hbr.trans (hb2.mono hbr.size)
      obtain ⟨g, rfl, hp, hx⟩ := hkey.out w3 (hKr.below hb2)
      have hp0 := hp 0 (by omega)
      have hx0 := hx 0 (by omega)
      have hpn := hp n (by omega)
      have hxn := hx n (by omega)
      have ht' := ht.out
      clear hKr hbr hb2 hp hx ht
      rcases HO.out with h | ⟨h, h'⟩
      · have hg : decide (Q 0 ≤ t) = false := by simp; omega
        go_wp2
        go_ret
        exact ⟨rfl, hbe⟩
      · have hg : decide (t ≤ Q n) = false := by simp; omega
        go_wp2
        go_ret
        exact ⟨rfl, hbe⟩
  · have Hj := HC.out j hjl
    have HD0 : Drained n j 0 d t Q := Drained.start (by omega) ht.out hqj
    have htn : t ≤ Q n := by omega
    have ht0 : Q 0 ≤ t := by omega
    have htd : Q n - t ≤ 65536 := by omega
    have HW : Hid (Q n - t + 1 = ((n + 1 - j : Nat) : Int)) := by show _ = _; omega
    have HJ : Hid (j < n + 1) := hjl
    clear hn hj0 hqj Hj Hn hjl
    go_wp2
    go_loopw [8, 9] (fun x c wr => ∃ k : Nat, ∃ dd t', x = .int .u64 dd ∧ c = .int .i64 k ∧ j + k ≤ n + 1 ∧ Drained n j k dd t' Q ∧ Kept wr a1 (n + 1) S Q B ∧ Below w.heap.size w wr) (fun _ c _ => n + 1 - (intOf c).toNat)
    case atStart => exact ⟨0, d, t, rfl, rfl, by have := HJ.out; omega, HD0, hK, hbb⟩
    case round =>
      obtain ⟨k, dd, t', rfl, rfl, hk, hD, hKr, hbr⟩ := hrel
      clear HD0 hK hbb
      have hcnt : decide ((k : Int) ≤ (n : Int) + 1) = true := by simp; omega
      by_cases hlast : j + k ≤ n
      · have e1 := hD.2.1 hlast
        subst e1
        have HND : Hid (Drained n j (k + 1) (Q (j + k)) (IntKind.u64.wrap (Q (j + k) + 1)) Q) := Drained.step hlast HQ.out HC.out
        have HT : Hid (IntKind.u64.wrap (dd + 1) = Q (j + k)) := hD.1
        clear hD
        go_wp2_with fail
        refine (zznext18 dd (Q (j + k)) p a1 (n + 1) (n + 1) S Q B _ HT (fun i hi => (HQ.out i hi).1) (by omega) hKr).mono ?_
        rintro e w3 ⟨rfl, hb2⟩
        rw [nh_at hlast HC.out]
        have hbe := hbr.trans (hb2.mono hbr.size)
        have hKe := hKr.below hb2
        have hx0 : w3.cell? ⟨B (j + k), 2, none⟩ = some (.int .u64 (Q (j + k))) := by
          obtain ⟨g, _, _, hx⟩ := hkey.out w3 hKe
          exact hx (j + k) (by omega)
        have hqq : (Q (j + k) != Q (j + k)) = false := by simp
        have ht' := HT.out
        clear hKr hbr hb2
        go_wp2
        go_roundw
        case rel => exact ⟨k + 1, Q (j + k), _, rfl, by go_num, by omega, HND.out, hKe, hbe⟩
        case measure => simp [intOf]; omega
      · have hkm : j + k = n + 1 := by omega
        have e1 := hD.2.2 hkm
        subst e1
        have HT : Hid (IntKind.u64.wrap (Q n + 1) = t') := hD.1
        have HN : Hid (nh t' (n + 1) Q B = none) := by
          show nh t' (n + 1) Q B = none
          rw [← HT.out]
          exact nh_end (by omega) HQ.out HC.out
        have hwk : IntKind.u64.wrap (k : Int) = (k : Int) := by rw [IntKind.wrap_u64]; omega
        have heq : ((k : Int) == Q n - t + 1) = true := by
          rw [beq_iff_eq]
          have := HW.out
          omega
        have hgt : decide ((n : Int) + 1 < (k : Int)) = false := by simp; omega
        clear hD
        go_wp2_with fail
        refine (zznext18 (Q n) t' p a1 (n + 1) (n + 1) S Q B _ HT (fun i hi => (HQ.out i hi).1) (by omega) hKr).mono ?_
        rintro e w3 ⟨rfl, hb2⟩
        rw [HN.out]
        have hbe := hbr.trans (hb2.mono hbr.size)
        obtain ⟨g, rfl, hp, hx⟩ := hkey.out w3 (hKr.below hb2)
        have hp0 := hp 0 (by omega)
        have hx0 := hx 0 (by omega)
        have hpn := hp n (by omega)
        have hxn := hx n (by omega)
        have ht' := ht.out
        clear hKr hbr hb2 hp hx ht
        go_wp2
        go_ret
        exact ⟨rfl, hbe⟩

end Go.Proofs.Qxb6604164a
