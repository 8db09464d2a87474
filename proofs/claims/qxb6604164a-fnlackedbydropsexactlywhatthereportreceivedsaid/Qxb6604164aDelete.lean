/-
  THE WALK OF slices.DeleteFunc (29).
-/
import Derived.Test.Qxb6604164aDel
import Derived.Lib.LazyBuf
namespace Go.Proofs.Qxb6604164a
open Go.RowKit Go.Maps
set_option linter.unusedVariables false

/-- The indices below j that are kept. -/
def kp (f : Nat → Bool) (j : Nat) : List Nat := (List.range j).filter fun i => !f i

theorem kp_succ (f : Nat → Bool) (j : Nat) : kp f (j + 1) = kp f j ++ (if f j then [] else [j]) := by
  unfold kp
  rw [List.range_succ, List.filter_append]
  cases h : f j <;> simp [h]

theorem kp_all {f : Nat → Bool} : ∀ {k : Nat}, (∀ i, i < k → f i = false) → kp f k = List.range k
  | 0, _ => rfl
  | k + 1, h => by
    rw [kp_succ, kp_all (fun i hi => h i (by omega)), h k (by omega), List.range_succ]
    simp

theorem kp_le (f : Nat → Bool) (j : Nat) : (kp f j).length ≤ j := by
  have := List.length_filter_le (fun i => !f i) (List.range j)
  simpa [kp] using this

/-- Behind the rounds up to j: the row holds the kept ones, then (from j on) what it held. -/
def Moved (wr : World) (g n cap : Nat) (B : Nat → Nat) (f : Nat → Bool) (i j : Nat) : Prop :=
  i = (kp f j).length ∧ i < j ∧ ∃ h : Nat → Value, wr.rowIs g 43 cap h ∧ (∀ t, t < i → h t = .pointer (some ⟨B ((kp f j).getD t 0), 0, none⟩)) ∧ ∀ t, j ≤ t → t < n → h t = .pointer (some ⟨B t, 0, none⟩)

theorem Moved.skip {wr : World} {g n cap : Nat} {B : Nat → Nat} {f : Nat → Bool} {i j : Nat} (h : Moved wr g n cap B f i j) (hf : f j = true) : Moved wr g n cap B f i (j + 1) := by
  obtain ⟨h1, h2, r, h3, h4, h5⟩ := h
  have e : kp f (j + 1) = kp f j := by rw [kp_succ, hf]; simp
  exact ⟨by rw [e]; exact h1, by omega, r, h3, by rw [e]; exact h4, fun t ht => h5 t (by omega)⟩

theorem Moved.take {wr : World} {g n cap : Nat} {B : Nat → Nat} {f : Nat → Bool} {i j : Nat} (h : Moved wr g n cap B f i j) (hf : f j = false) : Moved (wr.setCell ⟨g, i, none⟩ (.pointer (some ⟨B j, 0, none⟩))) g n cap B f (i + 1) (j + 1) := by
  obtain ⟨h1, h2, r, h3, h4, h5⟩ := h
  have e : kp f (j + 1) = kp f j ++ [j] := by rw [kp_succ, hf]; simp
  refine ⟨by rw [e]; simp; exact h1, by omega, _, h3.set i _, fun t ht => ?_, fun t ht htn => ?_⟩
  · rw [e]
    by_cases ht' : t = i
    · rw [if_pos ht', ht', h1]
      simp [List.getD_eq_getElem?_getD]
    · rw [if_neg ht', h4 t (by omega)]
      rw [List.getD_eq_getElem?_getD, List.getD_eq_getElem?_getD, List.getElem?_append_left (by omega)]
  · rw [if_neg (by omega)]
    exact h5 t (by omega) htn

theorem Moved.drewN {wr : World} {g n cap : Nat} {B : Nat → Nat} {f : Nat → Bool} {i j : Nat} (h : Moved wr g n cap B f i j) (d : Nat) : Moved (wr.drewN d) g n cap B f i j := h

theorem Moved.start {w : World} {g n cap k : Nat} {B : Nat → Nat} {f : Nat → Bool} {h : Nat → Value} (hr : w.rowIs g 43 cap h) (hh : ∀ t, t < n → h t = .pointer (some ⟨B t, 0, none⟩)) (hk : k < n) (hf : f k = true) (ha : ∀ i, i < k → f i = false) : Moved w g n cap B f k (k + 1) := by
  have e : kp f (k + 1) = List.range k := by rw [kp_succ, kp_all ha, hf]; simp
  refine ⟨by rw [e]; simp, by omega, h, hr, fun t ht => ?_, fun t _ htn => hh t htn⟩
  rw [e, hh t (by omega)]
  simp [List.getD_eq_getElem?_getD, ht]

/-- What DeleteFunc leaves: a slice of the same row, the kept ones in order. -/
def Deld (B0 : Nat) (w : World) (g n cap : Nat) (B : Nat → Nat) (f : Nat → Bool) (e : Ending) (w' : World) : Prop :=
  e = .returned (.slice (some ⟨g, 0, none⟩) (kp f n).length cap) ∧ Below B0 w w' ∧ ∀ t, t < (kp f n).length → w'.cell? ⟨g, t, none⟩ = some (.pointer (some ⟨B ((kp f n).getD t 0), 0, none⟩))

theorem zero43 (w : World) : (zeroValue 43).run Try.prog w = .ok (.pointer none) w := by kernel_rfl

set_option maxHeartbeats 1000000 in
theorem del29_at (B0 g n cap rb fb : Nat) (m : Option Nat) (D : DataW Unit) (S Q : Nat → Int) (B : Nat → Nat) (h : Nat → Value) (w : World) (hn : n ≤ 65536) (hcap : n ≤ cap) (hmx : cap ≤ maxLen) (hR : Rep w rb fb m D)
    (hr : w.rowIs g 43 cap h) (hh : ∀ t, t < n → h t = .pointer (some ⟨B t, 0, none⟩)) (hB : ∀ i, i < n → Box w (B i) (S i) (Q i)) (hw : ∀ i, i < n → (Lit.int .u32 (S i)).wf = true)
    (h0 : B0 ≤ g) (h1 : rb < B0) (h2 : fb < B0) (h3 : ∀ b, m = some b → b < B0) (h4 : ∀ i, i < n → B i < B0) :
    Calls Try.prog 29 #[.slice (some ⟨g, 0, none⟩) n cap, .func (.func 31) #[] #[.pointer (some ⟨rb, 0, none⟩)]] w (Deld B0 w g n cap B (dl m D S Q)) := by
  unfold maxLen at hmx
  have HR : Hid (Rep w rb fb m D) := hR
  have HB : Hid (∀ i, i < n → Box w (B i) (S i) (Q i)) := hB
  have HW : Hid (∀ i, i < n → (Lit.int .u32 (S i)).wf = true) := hw
  have HH : Hid (∀ t, t < n → h t = .pointer (some ⟨B t, 0, none⟩)) := hh
  have H3 : Hid (∀ b, m = some b → b < B0) := h3
  have H4 : Hid (∀ i, i < n → B i < B0) := h4
  have HRW : Hid (w.rowIs g 43 cap h) := hr
  clear hR hB hw hh h3 h4 hr
  go_enter Try.func29, Try.ntmps29
  go_wp2_with fail
  refine (idx32_at g n cap rb fb m D S Q B _ hn HR.out (fun i hi => by rw [HRW.out.cell (by omega), HH.out i hi]) HB.out HW.out).mono ?_
  rintro e w1 ⟨⟨d1, rfl⟩, ⟨rfl, hall⟩ | ⟨k, rfl, hk, hfk, hall⟩⟩
  · have HA : Hid (∀ i, i < n → dl m D S Q i = false) := hall
    clear hall
    go_wp2
    go_ret
    have e := kp_all HA.out
    refine ⟨by rw [e]; simp, below_drewN (Below.refl _ _) _, fun t ht => ?_⟩
    rw [e] at ht ⊢
    have htn : t < n := by simpa using ht
    show w.cell? ⟨g, t, none⟩ = _
    rw [HRW.out.cell (by omega), HH.out t htn]
    simp [List.getD_eq_getElem?_getD, htn]
  · have HST := Moved.start (f := dl m D S Q) HRW.out HH.out hk hfk hall
    clear hfk hall
    have hk0 : ((k : Int) == -1) = false := by rw [beq_eq_false_iff_ne]; omega
    go_wp2
    go_loopw [5, 6] (fun x y wr => ∃ i j : Nat, x = .int .i64 i ∧ y = .int .i64 j ∧ j ≤ n ∧ Below B0 w wr ∧ Moved wr g n cap B (dl m D S Q) i j) (fun _ y _ => n - (intOf y).toNat)
    case atStart => exact ⟨k, k + 1, rfl, by go_num, by omega, below_drewN (Below.refl _ _) _, HST⟩
    case round =>
      obtain ⟨i, j, rfl, rfl, hj, hbel, hmv⟩ := hrel
      clear HST
      by_cases hlt : j < n
      · obtain ⟨e1, e2, h', hr', h4', h5'⟩ := id hmv
        have hcj : wr.cell? ⟨g, j, none⟩ = some (.pointer (some ⟨B j, 0, none⟩)) := by rw [hr'.cell (by omega), h5' j (Nat.le_refl _) hlt]
        have hci : wr.cell? ⟨g, i, none⟩ = some (h' i) := hr'.cell (by omega)
        have hfi := hr'.frozen i
        have hc := clo31 rb fb (B j) m D (S j) (Q j) wr (HR.out.below hbel h1 h2 H3.out) ((HB.out j hlt).below hbel (H4.out j hlt)) (HW.out j hlt)
        have HC : Hid (Calls Try.prog 31 #[.pointer (some ⟨B j, 0, none⟩), .pointer (some ⟨rb, 0, none⟩)] wr (Ans wr (dl m D S Q j))) := hc
        have hjn : (j : Int) < (n : Int) := by omega
        have hin : (i : Int) < (n : Int) := by omega
        clear hc hr' h4' h5' e1
        generalize hx : dl m D S Q j = x at HC
        have HX : Hid (dl m D S Q j = x) := hx
        clear hx
        have HMV : Hid (Moved wr g n cap B (dl m D S Q) i j) := hmv
        clear hmv
        go_wp2_with fail
        refine (HC.out).mono ?_
        rintro e w1 ⟨rfl, d', rfl⟩
        cases x
        · go_wp2
          go_roundw
          case rel => exact ⟨i + 1, j + 1, by go_num, by go_num, by omega, below_drewN (hbel.setCell h0 _) d', (HMV.out.take HX.out).drewN d'⟩
          case measure => simp [intOf]; omega
        · go_wp2
          go_roundw
          case rel => exact ⟨i, j + 1, rfl, by go_num, by omega, below_drewN hbel d', (HMV.out.skip HX.out).drewN d'⟩
          case measure => simp [intOf]; omega
      · obtain rfl : j = n := by omega
        obtain ⟨e1, e2, h', hr', h4', h5'⟩ := id hmv
        have hcl : ∀ ty, (Builtin.clear_ #[39] ty #[.slice (some ⟨g, i, none⟩) (j - i) (cap - i)]).run Try.prog wr = .ok (.tuple #[]) (wr.setCells g i (List.replicate (j - i) (.pointer none))) := fun ty =>
          Lib.run_clear_slice wr 39 43 ty _ Try.underlying39 zero43 rfl rfl g i (j - i) (cap - i) (by omega) (fun t ht => by rw [hr'.cell (by omega)]; rfl) (fun t ht => hr'.frozen _)
        have hij : (i : Int) ≤ (j : Int) := by omega
        have hjc : (j : Int) ≤ (cap : Int) := by omega
        have hic : (i : Int) ≤ (cap : Int) := by omega
        have HF : Hid (Deld B0 w g j cap B (dl m D S Q) (.returned (.slice (some ⟨g, 0, none⟩) i cap)) (wr.setCells g i (List.replicate (j - i) (.pointer none)))) := by
          refine ⟨by rw [e1], below_setCells h0 _ _ _ hbel, fun t ht => ?_⟩
          rw [← e1] at ht
          rw [World.cell?_setCells_out _ _ _ _ _ (fun _ _ => .inl ht), hr'.cell (by omega), h4' t ht]
        clear hmv hr' h4' h5' e1
        go_wp2
        go_ret
        exact HF.out

set_option maxHeartbeats 400000 in
theorem del29_zero (a : Option Addr) (cap : Nat) (fv : Value) (w : World) :
    Calls Try.prog 29 #[.slice a 0 cap, fv] w fun e w' => e = .returned (.slice a 0 cap) ∧ ∃ n, w' = w.drewN n := by
  go_enter Try.func29, Try.ntmps29
  go_wp2_with fail
  refine (idx32_zero a cap (fun _ => false) fv _).mono ?_
  rintro e w1 ⟨⟨d1, rfl⟩, ⟨rfl, _⟩ | ⟨k, rfl, hk, _⟩⟩
  · go_wp2
    go_ret
    exact ⟨rfl, d1, rfl⟩
  · omega

end Go.Proofs.Qxb6604164a
