/-
  THE WALKS OF slices.IndexFunc (32), slices.Clone (30), slices.DeleteFunc (29).
-/
import Derived.Test.Qxb6604164aInst
import Derived.Deep.AppendLies
namespace Go.Proofs.Qxb6604164a
open Go.RowKit Go.Maps
set_option linter.unusedVariables false

theorem Rep.below {w w' : World} {rb fb : Nat} {m : Option Nat} {D : DataW Unit} (h : Rep w rb fb m D) {B : Nat} (hb : Below B w w') (h1 : rb < B) (h2 : fb < B) (h3 : ∀ b, m = some b → b < B) : Rep w' rb fb m D :=
  ⟨Nat.lt_of_lt_of_le h.rlt hb.size, Nat.lt_of_lt_of_le h.flt hb.size, (hb.cell (by exact h1)).trans h.c0, (hb.cell (by exact h2)).trans h.c2, by
    rcases h.own with h | ⟨b, n, e, es, clock, h4, r⟩
    · exact .inl h
    · exact .inr ⟨b, n, e, es, clock, (hb.block _ (h3 b e)).trans h4, r⟩⟩

theorem Box.below {w w' : World} {b : Nat} {s q : Int} (h : Box w b s q) {B : Nat} (hb : Below B w w') (hB : b < B) : Box w' b s q :=
  ⟨Nat.lt_of_lt_of_le h.lt hb.size, by obtain ⟨c, hc⟩ := h.blk; exact ⟨c, (hb.block _ hB).trans hc⟩, (hb.cell (by exact hB)).trans h.c1, (hb.cell (by exact hB)).trans h.c2⟩

/-- Is message i dropped? -/
def dl (m : Option Nat) (D : DataW Unit) (S Q : Nat → Int) (i : Nat) : Bool := dB (Q i) (lk m D (S i))

/-- IndexFunc's answer: the first i below n at which f is true, or -1. -/
def Firsty (w : World) (n : Nat) (f : Nat → Bool) (e : Ending) (w' : World) : Prop :=
  (∃ k, w' = w.drewN k) ∧ ((e = .returned (.int .i64 (-1)) ∧ ∀ i, i < n → f i = false) ∨ ∃ k : Nat, e = .returned (.int .i64 k) ∧ k < n ∧ f k = true ∧ ∀ i, i < k → f i = false)

set_option maxHeartbeats 400000 in
theorem idx32_at (g n cap rb fb : Nat) (m : Option Nat) (D : DataW Unit) (S Q : Nat → Int) (B : Nat → Nat) (w : World) (hn : n ≤ 65536) (hR : Rep w rb fb m D)
    (hp : ∀ i, i < n → w.cell? ⟨g, i, none⟩ = some (.pointer (some ⟨B i, 0, none⟩))) (hB : ∀ i, i < n → Box w (B i) (S i) (Q i)) (hw : ∀ i, i < n → (Lit.int .u32 (S i)).wf = true) :
    Calls Try.prog 32 #[.slice (some ⟨g, 0, none⟩) n cap, .func (.func 31) #[] #[.pointer (some ⟨rb, 0, none⟩)]] w (Firsty w n (dl m D S Q)) := by
  have HR : Hid (Rep w rb fb m D) := hR
  have HB : Hid (∀ i, i < n → Box w (B i) (S i) (Q i)) := hB
  have HW : Hid (∀ i, i < n → (Lit.int .u32 (S i)).wf = true) := hw
  clear hR hB hw
  go_enter Try.func32, Try.ntmps32
  go_wp2
  go_loopw [8] (fun i wr => ∃ k : Nat, k ≤ n ∧ i = .int .i64 k ∧ (∃ d, wr = w.drewN d) ∧ Hid (∀ i, i < k → dl m D S Q i = false)) (fun i _ => n - (intOf i).toNat)
  case atStart => exact ⟨0, Nat.zero_le _, rfl, ⟨0, rfl⟩, fun i hi => absurd hi (Nat.not_lt_zero _)⟩
  case round =>
    obtain ⟨k, hk, rfl, ⟨d, rfl⟩, HP⟩ := hrel
    by_cases hlt : k < n
    · have hpk := hp k hlt
      have hi : (k : Int) < (n : Int) := by omega
      have hbd : Below w.heap.size w (w.drewN d) := below_drewN (Below.refl _ _) d
      have hc := clo31 rb fb (B k) m D (S k) (Q k) (w.drewN d) (HR.out.below hbd HR.out.rlt HR.out.flt (fun b e => by
        rcases HR.out.own with h | ⟨b', n', h1, h2⟩
        · rw [h] at e; cases e
        · rw [h1] at e; cases e; exact h2.lt)) ((HB.out k hlt).below hbd (HB.out k hlt).lt) (HW.out k hlt)
      have HC : Hid (Calls Try.prog 31 #[.pointer (some ⟨B k, 0, none⟩), .pointer (some ⟨rb, 0, none⟩)] (w.drewN d) (Ans (w.drewN d) (dl m D S Q k))) := hc
      clear hc hbd
      generalize hx : dl m D S Q k = x at HC
      have HX : Hid (dl m D S Q k = x) := hx
      clear hx
      go_wp2_with fail
      refine (HC.out).mono ?_
      rintro e w1 ⟨rfl, d', rfl⟩
      cases x
      · go_wp2
        go_roundw
        case rel =>
          refine ⟨k + 1, by omega, by go_num, ⟨d + d', by simp⟩, fun i hi => ?_⟩
          by_cases hik : i < k
          · exact HP.out i hik
          · obtain rfl : i = k := by omega
            exact HX.out
        case measure => simp [intOf]; omega
      · go_wp2
        go_ret
        exact ⟨⟨d + d', by simp⟩, .inr ⟨k, rfl, hlt, HX.out, HP.out⟩⟩
    · go_wp2
      go_ret
      exact ⟨⟨d, rfl⟩, .inl ⟨rfl, fun i hi => HP.out i (by omega)⟩⟩

set_option maxHeartbeats 400000 in
theorem idx32_zero (a : Option Addr) (cap : Nat) (f : Nat → Bool) (fv : Value) (w : World) :
    Calls Try.prog 32 #[.slice a 0 cap, fv] w (Firsty w 0 f) := by
  go_enter Try.func32, Try.ntmps32
  go_wp2
  go_loop [8] (fun i => i = .int .i64 0) (fun i => 0 - (intOf i).toNat)
  case atStart => exact rfl
  case round =>
    obtain rfl := hrel
    go_wp2
    go_ret
    exact ⟨⟨0, rfl⟩, .inl ⟨rfl, fun i hi => absurd hi (Nat.not_lt_zero _)⟩⟩

theorem Try.info43' : (Try.prog.info? 43).map (fun i => (i.zero, i.size, i.bytes)) = some (some (.pointer none), 1, 8) := by kernel_rfl

set_option maxHeartbeats 1000000 in
theorem clone30_some (ad : Addr) (n c : Nat) (B : Nat → Nat) (w : World) (hn : n ≤ 65536) (hc : ∀ j, j < n → w.cell? (ad.add j) = some (.pointer (some ⟨B j, 0, none⟩))) :
    Calls Try.prog 30 #[.slice (some ad) n c] w fun e w' => ∃ v', e = .returned v' ∧ w'.ownsRow w.heap.size 43 1 v' n ((List.range n).map fun i => .pointer (some ⟨B i, 0, none⟩)) ∧ v' ≠ .slice none 0 0 ∧ Below w.heap.size w w' := by
  obtain ⟨i0, hi, hz0, hz1, hz2⟩ := info_parts Try.info43'
  have hnil := fun wx => Lib.run_eql_slice_nil (P := Try.prog) wx 39 43 (some ad) n c 0 0 Try.underlying39
  have A : Hid (∀ j, j < n → w.cell? (ad.add j) = some (.pointer (some ⟨B j, 0, none⟩))) := hc
  clear hc
  go_enter Try.func30, Try.ntmps30
  go_wp2_with (at_builtin; refine wpList_append_own _ rfl _ _ 39 rfl w.heap.size 43 i0 (.pointer none) 1 8 Try.underlying39 hi hz0 hz1 hz2 rfl (by decide) _ _ _ rfl (World.ownsRow_made w #[] 0 (Nat.le_refl _) (Nat.zero_le _) rfl) ad n c ((List.range n).map fun i => .pointer (some ⟨B i, 0, none⟩)) rfl ?qc1 ?qc2 ?qc3 ?qc4 ?qc5 ?qc6 ?_)
  case qc1 => simp
  case qc2 =>
    intro j u hj
    have hjn : j < n := by
      have := (List.getElem?_eq_some_iff.1 hj).1
      simpa using this
    refine Lib.cell?_alloc_some _ ?_
    rw [A.out j hjn]
    simpa [hjn] using hj
  case qc3 => intro u hu; obtain ⟨x, _, rfl⟩ := List.mem_map.1 hu; rfl
  case qc4 => unfold maxLen; omega
  case qc5 => omega
  case qc6 => simp
  intro v' w1 hown hgrow hnil'
  go_wp2
  go_ret
  refine ⟨v', rfl, by simpa using hown, hnil', ?_⟩
  exact ((Below.refl _ w).alloc (Nat.le_refl _) _).grown hgrow (by simp) (by intro k hk; simp [Value.ownBlock] at hk; omega)

set_option maxHeartbeats 400000 in
theorem clone30_nil (n c : Nat) (w : World) : Calls Try.prog 30 #[.slice none n c] w fun e w' => e = .returned (.slice none 0 0) ∧ w = w' := by
  have hnil := fun wx => Lib.run_eql_slice_nil (P := Try.prog) wx 39 43 none n c 0 0 Try.underlying39
  go_enter Try.func30, Try.ntmps30
  go_wp2
  go_ret
  exact ⟨rfl, rfl⟩

end Go.Proofs.Qxb6604164a
