/-
  THE WALKS OF checkCRLNumber (12), ZZcheckCRLNumber (10).
-/
import Derived.Test.Qxb6604502aDoorFind
import Derived.Deep.RegionHeld3
import Derived.Deep.DrawnRows
namespace Go.Proofs.Qxb6604502aDoor
open Go.RowKit
set_option linter.unusedVariables false

/-- The list is accepted: some identifier is the CRL Number's, and the first such one is not critical. -/
def Acc (n : Nat) (IL : Nat → Nat) (C : Nat → Bool) (Z : Nat → Nat → Int) : Prop := ∃ k, First n (fun i => crlB (IL i) (Z i)) k ∧ C k = false

/-- The error that comes back: nil just where the list is accepted. -/
def Err (w : World) (R : Prop) (e : Ending) (w' : World) : Prop :=
  Below w.heap.size w w' ∧ ((e = .returned .nilIface ∧ R) ∨ ∃ b, e = .returned (.iface 71 (.pointer (some ⟨b, 0, none⟩))) ∧ ¬ R)

theorem Err.no {w w' : World} {R : Prop} {e : Ending} {b : Nat} (hb : Below w.heap.size w w') (he : e = .returned (.iface 71 (.pointer (some ⟨b, 0, none⟩)))) (h : ¬ R) : Err w R e w' := ⟨hb, .inr ⟨b, he, h⟩⟩
theorem Err.yes {w w' : World} {R : Prop} {e : Ending} (hb : Below w.heap.size w w') (he : e = .returned .nilIface) (h : R) : Err w R e w' := ⟨hb, .inl ⟨he, h⟩⟩

theorem first_one {n : Nat} {f : Nat → Bool} {a b : Nat} (ha : First n f a) (hb : First n f b) : a = b := by
  rcases Nat.lt_trichotomy a b with h | h | h
  · have := hb.2.2 a h; rw [ha.2.1] at this; cases this
  · exact h
  · have := ha.2.2 b h; rw [hb.2.1] at this; cases this

theorem find13' {w : World} (W : World) (hW : Below w.heap.size w W) (g n cap oc : Nat) (o : Option Addr) (IA : Nat → Option Addr) (IL IC : Nat → Nat) (C : Nat → Bool) (Z : Nat → Nat → Int) (hn : n ≤ 1048576) (hX : Exts w g n IA IL IC C Z) (hO : Ints w o 4 oidZ) :
    Calls Tryd.prog 13 #[.slice (some ⟨g, 0, none⟩) n cap, .slice o 4 oc] W fun e w' => ∃ ia il ic cr ok, e = .returned (.tuple #[.agg #[.slice ia il ic, .bool cr, .slice none 0 0], .bool ok]) ∧ Below W.heap.size W w' ∧ Hid (Below w.heap.size w w') ∧
      Hid ((ok = false ∧ ∀ i, i < n → crlB (IL i) (Z i) = false) ∨ (ok = true ∧ ∃ k, First n (fun i => crlB (IL i) (Z i)) k ∧ cr = C k)) :=
  (find13 g n cap oc o IA IL IC C Z W hn (hX.below hW) (hO.below hW)).mono fun e w' ⟨hb, h⟩ => by
    rcases h with ⟨rfl, h⟩ | ⟨k, hk, rfl⟩
    · exact ⟨none, 0, 0, false, false, rfl, hb, hW.trans (hb.mono hW.size), .inl ⟨rfl, h⟩⟩
    · exact ⟨_, _, _, _, true, rfl, hb, hW.trans (hb.mono hW.size), .inr ⟨rfl, k, hk, rfl⟩⟩

theorem acc_of {n : Nat} {IL : Nat → Nat} {C : Nat → Bool} {Z : Nat → Nat → Int} {ok cr : Bool} (h : (ok = false ∧ ∀ i, i < n → crlB (IL i) (Z i) = false) ∨ (ok = true ∧ ∃ k, First n (fun i => crlB (IL i) (Z i)) k ∧ cr = C k)) :
    (ok = true → cr = false → Acc n IL C Z) ∧ (ok = false ∨ cr = true → ¬ Acc n IL C Z) := by
  rcases h with ⟨rfl, h⟩ | ⟨rfl, k, hk, rfl⟩
  · refine ⟨fun h => (by cases h), fun _ ha => ?_⟩
    obtain ⟨k, hk, _⟩ := ha
    have := h k hk.1
    have h2 := hk.2.1
    simp only [this] at h2
    cases h2
  · refine ⟨fun _ hc => ⟨k, hk, hc⟩, fun h ha => ?_⟩
    obtain ⟨k', hk', hc⟩ := ha
    rcases h with h | h
    · cases h
    · rw [first_one hk hk', hc] at h
      cases h

theorem bcell {W w1 : World} (hb : Below W.heap.size W w1) : (∀ b o, b < W.heap.size → w1.cell? ⟨b, o, none⟩ = W.cell? ⟨b, o, none⟩) ∧ (∀ b o, b < W.heap.size → w1.frozen? ⟨b, o, none⟩ = W.frozen? ⟨b, o, none⟩) :=
  ⟨fun b o h => hb.cell (p := ⟨b, o, none⟩) h, fun b o h => hb.frozen (p := ⟨b, o, none⟩) h⟩

theorem other1 {w : World} {g b o o1 : Nat} {u : Value} (h : b ≠ g) : (w.setCell ⟨g, o1, none⟩ u).cell? ⟨b, o, none⟩ = w.cell? ⟨b, o, none⟩ :=
  World.cell?_of_block (Go.Deep.blk_setCell_other _ _ _ _ h)
theorem far3 {w : World} {g b o o1 o2 o3 : Nat} {u1 u2 u3 : Value} (h : b ≠ g) : (((w.setCell ⟨g, o1, none⟩ u1).setCell ⟨g, o2, none⟩ u2).setCell ⟨g, o3, none⟩ u3).cell? ⟨b, o, none⟩ = w.cell? ⟨b, o, none⟩ := by
  rw [other1 h, other1 h, other1 h]

set_option maxHeartbeats 1000000 in
theorem check12 (cb lb g n cap oc : Nat) (o : Option Addr) (IA : Nat → Option Addr) (IL IC : Nat → Nat) (C : Nat → Bool) (Z : Nat → Nat → Int) (w : World) (hn : n ≤ 1048576) (hX : Exts w g n IA IL IC C Z) (hO : Ints w o 4 oidZ)
    (h0 : w.cell? ⟨cb, 0, none⟩ = some (.pointer (some ⟨lb, 0, none⟩))) (h1 : w.cell? ⟨lb, 27, none⟩ = some (.slice (some ⟨g, 0, none⟩) n cap)) (h2 : w.cell? ⟨0, 0, none⟩ = some (.slice o 4 oc)) (hcb : cb < w.heap.size) (hlb : lb < w.heap.size) (h00 : 0 < w.heap.size) :
    Calls Tryd.prog 12 #[.pointer (some ⟨cb, 0, none⟩), .agg #[.slice none 0 0]] w (Err w (Acc n IL C Z)) := by
  have n1 : cb ≠ w.heap.size := by omega
  have n2 : lb ≠ w.heap.size := by omega
  have n3 : 0 ≠ w.heap.size := by omega
  have m1 : cb < w.heap.size + 1 := by omega
  have m2 : lb < w.heap.size + 1 := by omega
  have m3 : cb < w.heap.size + 1 + 1 := by omega
  have m4 : lb < w.heap.size + 1 + 1 := by omega
  have m5 : cb ≠ w.heap.size + 1 := by omega
  have m6 : lb ≠ w.heap.size + 1 := by omega
  have m7 : 0 ≠ w.heap.size + 1 := by omega
  have HX : Hid (Exts w g n IA IL IC C Z) := hX
  have HO : Hid (Ints w o 4 oidZ) := hO
  have HB0 : Hid (Below w.heap.size w (w.alloc (.cells #[.slice none 0 0] 64))) := (Below.refl _ _).alloc (Nat.le_refl _) _
  clear hX hO
  go_enter Tryd.func12, Tryd.ntmps12
  go_wp2
  go_region_held3 (fun w' => w'.cell? ⟨cb, 0, none⟩ = some (.pointer (some ⟨lb, 0, none⟩)) ∧ w'.cell? ⟨lb, 27, none⟩ = some (.slice (some ⟨g, 0, none⟩) n cap) ∧ w'.cell? ⟨0, 0, none⟩ = some (.slice o 4 oc)) (first | (go_keep; done) | exact ⟨k0, k1, k2⟩ | exact ⟨(far3 m5).trans k0, (far3 m6).trans k1, (far3 m7).trans k2⟩)
    (first | (go_at_call 13; refine (find13' (w := w) _ ?_ g n cap oc o IA IL IC C Z hn HX.out HO.out).mono ?_; (first | exact HB0.out.drew | exact HB0.out.drew.alloc (by simp) _ | exact (HB0.out.alloc (by simp) _).drew); rintro e w1 ⟨ia, il, ic, cr, ok, rfl, hb1, HBW, HC⟩; obtain ⟨hcl, hfr⟩ := bcell hb1; have k0 : w1.cell? ⟨cb, 0, none⟩ = some (.pointer (some ⟨lb, 0, none⟩)) := (by go_keep); have k1 : w1.cell? ⟨lb, 27, none⟩ = some (.slice (some ⟨g, 0, none⟩) n cap) := (by go_keep); have k2 : w1.cell? ⟨0, 0, none⟩ = some (.slice o 4 oc) := (by go_keep); have hz1 := hb1.size; have HB1 := hb1; clear hb1))
  · have HACC : Hid ((ok = true → cr = false → Acc n IL C Z) ∧ (ok = false ∨ cr = true → ¬ Acc n IL C Z)) := acc_of HC.out
    have HZ : Hid (Below w.heap.size w (w1.alloc (.cells #[.slice ia il ic, .bool cr, .slice none 0 0] 37))) := HBW.out.alloc HBW.out.size _
    clear HC HB1 HBW hcl hfr k0 k1 k2 h0 h1 h2
    cases ok
    · go_wp2_with fail
      refine (new14 _ _).mono ?_
      rintro e w2 ⟨b, rfl, hb2⟩
      have HE : Hid (Below w.heap.size w w2) := HZ.out.trans (hb2.mono HZ.out.size)
      clear hb2
      go_wp2
      go_ret
      exact Err.no HE.out rfl (HACC.out.2 (by simp))
    · cases cr
      · go_wp2_with fail
        go_ret
        exact Err.yes HZ.out rfl (HACC.out.1 (by simp) (by simp))
      · go_wp2_with fail
        refine (new14 _ _).mono ?_
        rintro e w2 ⟨b, rfl, hb2⟩
        have HE : Hid (Below w.heap.size w w2) := HZ.out.trans (hb2.mono HZ.out.size)
        clear hb2
        go_wp2
        go_ret
        exact Err.no HE.out rfl (HACC.out.2 (by simp))
  · have HACC : Hid ((ok = true → cr = false → Acc n IL C Z) ∧ (ok = false ∨ cr = true → ¬ Acc n IL C Z)) := acc_of HC.out
    have HZ : Hid (Below w.heap.size w (((w1.setCell ⟨w.heap.size + 1, 0, none⟩ (.slice ia il ic)).setCell ⟨w.heap.size + 1, 1, none⟩ (.bool cr)).setCell ⟨w.heap.size + 1, 2, none⟩ (.slice none 0 0))) := ((HBW.out.setCell (by show w.heap.size ≤ w.heap.size + 1; omega) _).setCell (by show w.heap.size ≤ w.heap.size + 1; omega) _).setCell (by show w.heap.size ≤ w.heap.size + 1; omega) _
    clear HC HB1 HBW k0 k1 k2 h0 h1 h2
    cases ok
    · go_wp2_with fail
      refine (new14 _ _).mono ?_
      rintro e w2 ⟨b, rfl, hb2⟩
      have HE : Hid (Below w.heap.size w w2) := HZ.out.trans (hb2.mono HZ.out.size)
      clear hb2
      go_wp2
      go_ret
      exact Err.no HE.out rfl (HACC.out.2 (by simp))
    · cases cr
      · go_wp2_with fail
        go_ret
        exact Err.yes HZ.out rfl (HACC.out.1 (by simp) (by simp))
      · go_wp2_with fail
        refine (new14 _ _).mono ?_
        rintro e w2 ⟨b, rfl, hb2⟩
        have HE : Hid (Below w.heap.size w w2) := HZ.out.trans (hb2.mono HZ.out.size)
        clear hb2
        go_wp2
        go_ret
        exact Err.no HE.out rfl (HACC.out.2 (by simp))

end Go.Proofs.Qxb6604502aDoor
