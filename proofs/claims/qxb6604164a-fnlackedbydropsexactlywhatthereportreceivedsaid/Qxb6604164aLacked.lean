/-
  THE WALKS OF lackedBy (24), ZZLackedBy (12).
-/
import Derived.Test.Qxb6604164aDelete
namespace Go.Proofs.Qxb6604164a
open Go.RowKit Go.Maps
set_option linter.unusedVariables false

set_option maxHeartbeats 400000 in
theorem lack24_nil (ib : Nat) (w : World) : Calls Try.prog 24 #[.pointer (some ⟨ib, 0, none⟩), .pointer none] w fun e w' => e = .returned (.pointer (some ⟨ib, 0, none⟩)) ∧ Below w.heap.size w w' := by
  have hnn := fun wx => run_eql_pointer_nil (P := Try.prog) (w := wx) 34 none (by kernel_rfl)
  go_enter Try.func24, Try.ntmps24
  go_wp2
  go_ret
  exact ⟨rfl, (Below.refl _ _).alloc (Nat.le_refl _) _⟩

/-- What lackedBy leaves where a report is given. -/
def Lacked (w : World) (ib : Nat) (v : Int) (pa : Option Addr) (pl : Nat) (cut least : Option Nat) (n : Nat) (ra : Option Addr) (rl : Nat) (B : Nat → Nat) (f : Nat → Bool) (e : Ending) (w' : World) : Prop :=
  Below w.heap.size w w' ∧ (((kp f n).length = n ∧ e = .returned (.pointer (some ⟨ib, 0, none⟩))) ∨
    ((kp f n).length ≠ n ∧ ∃ nb g cap, e = .returned (.pointer (some ⟨nb, 0, none⟩)) ∧ w.heap.size ≤ nb ∧ Inst w' nb v pa pl cut least (some ⟨g, 0, none⟩) (kp f n).length cap ra rl ∧ g < w'.heap.size ∧
      ∀ t, t < (kp f n).length → w'.cell? ⟨g, t, none⟩ = some (.pointer (some ⟨B ((kp f n).getD t 0), 0, none⟩))))

set_option maxHeartbeats 400000 in
theorem lack24_none (ib fb : Nat) (v : Int) (pa : Option Addr) (pl : Nat) (cut least : Option Nat) (ra : Option Addr) (rl : Nat) (w : World) (hI : Inst w ib v pa pl cut least none 0 0 ra rl) (B : Nat → Nat) (f : Nat → Bool) :
    Calls Try.prog 24 #[.pointer (some ⟨ib, 0, none⟩), .pointer (some ⟨fb, 0, none⟩)] w (Lacked w ib v pa pl cut least 0 ra rl B f) := by
  have hnn := fun wx => run_eql_pointer_nil (P := Try.prog) (w := wx) 34 (some ⟨fb, 0, none⟩) (by kernel_rfl)
  have hlt := hI.lt
  have hc4 := hI.c4
  have hne : ib ≠ w.heap.size := by omega
  clear hI
  go_enter Try.func24, Try.ntmps24
  go_wp2_with fail
  refine (clone30_nil 0 0 _).mono ?_
  rintro e w1 ⟨rfl, rfl⟩
  go_wp2_with fail
  refine (del29_zero none 0 _ _).mono ?_
  rintro e w1 ⟨rfl, n, rfl⟩
  go_wp2
  go_ret
  exact ⟨below_drewN ((Below.refl _ _).alloc (Nat.le_refl _) _) _, .inl ⟨rfl, rfl⟩⟩

set_option maxHeartbeats 400000 in
theorem lack24_zero (ib fb : Nat) (v : Int) (pa : Option Addr) (pl : Nat) (cut least : Option Nat) (ad : Addr) (dc : Nat) (ra : Option Addr) (rl : Nat) (w : World) (hI : Inst w ib v pa pl cut least (some ad) 0 dc ra rl) (B : Nat → Nat) (f : Nat → Bool) :
    Calls Try.prog 24 #[.pointer (some ⟨ib, 0, none⟩), .pointer (some ⟨fb, 0, none⟩)] w (Lacked w ib v pa pl cut least 0 ra rl B f) := by
  have hnn := fun wx => run_eql_pointer_nil (P := Try.prog) (w := wx) 34 (some ⟨fb, 0, none⟩) (by kernel_rfl)
  have hlt := hI.lt
  have hc4 := hI.c4
  have hne : ib ≠ w.heap.size := by omega
  clear hI
  go_enter Try.func24, Try.ntmps24
  go_wp2_with fail
  refine (clone30_some ad 0 dc (fun _ => 0) _ (by omega) (fun j hj => absurd hj (Nat.not_lt_zero _))).mono ?_
  rintro e w1 ⟨v', rfl, hown, hnil, hb1⟩
  obtain ⟨g, cap, hv'⟩ : ∃ g cap, v' = .slice (some ⟨g, 0, none⟩) 0 cap := by
    rcases hown.2 with ⟨h, _⟩ | ⟨g, cap, cur, h, _⟩
    · exact absurd h hnil
    · exact ⟨g, cap, h⟩
  rw [hv']
  have hc4' : w1.cell? ⟨ib, 4, none⟩ = some (.slice (some ad) 0 dc) := ((hb1.mono (show w.heap.size ≤ _ by simp)).cell (by exact hlt)).trans (((Below.refl w.heap.size w).alloc (Nat.le_refl _) _).cell (p := ⟨ib, 4, none⟩) hlt |>.trans hc4)
  have hbe : Below w.heap.size w w1 := ((Below.refl w.heap.size w).alloc (Nat.le_refl _) _).trans (hb1.mono (by simp))
  clear hown hnil hv' hb1 hc4
  go_wp2_with fail
  refine (del29_zero (some ⟨g, 0, none⟩) cap _ _).mono ?_
  rintro e w2 ⟨rfl, n, rfl⟩
  go_wp2
  go_ret
  exact ⟨below_drewN hbe _, .inl ⟨rfl, rfl⟩⟩

theorem row_of {w : World} {base g n cap : Nat} {xs : List Value} (hown : w.ownsRow base 43 1 (.slice (some ⟨g, 0, none⟩) n cap) n xs) : base ≤ g ∧ n ≤ cap ∧ cap ≤ maxLen ∧ ∃ h : Nat → Value, w.rowIs g 43 cap h ∧ ∀ t, t < n → xs[t]? = some (h t) := by
  rcases hown.2 with ⟨h, _⟩ | ⟨g', cap', cur, h, h1, h2, h3, h4, h5, h6⟩
  · cases h
  · cases h
    refine ⟨h1, h3, h4, fun i => cur[i]?.getD .nilIface, ⟨cur, h2, by simpa using h5, fun i hi => ?_⟩, fun t ht => ?_⟩
    · have : i < cur.size := by rw [h5]; omega
      simp [this]
    · have hc : t < cur.size := by rw [h5]; omega
      rw [← h6, List.getElem?_take_of_lt (by omega)]
      simp [hc]

set_option maxHeartbeats 2000000 in
theorem lack24_at (ib fb : Nat) (v : Int) (pa : Option Addr) (pl : Nat) (cut least : Option Nat) (g0 n : Nat) (ra : Option Addr) (rl : Nat) (m : Option Nat) (D : DataW Unit) (S Q : Nat → Int) (B : Nat → Nat) (w : World)
    (hI : Inst w ib v pa pl cut least (some ⟨g0, 0, none⟩) n n ra rl) (hF : Flu w fb m) (hO : MapOwn w m D) (hn0 : 0 < n) (hn : n ≤ 65536) (hg0 : g0 < w.heap.size)
    (hp : ∀ i, i < n → w.cell? ⟨g0, i, none⟩ = some (.pointer (some ⟨B i, 0, none⟩))) (hB : ∀ i, i < n → Box w (B i) (S i) (Q i)) (hw : ∀ i, i < n → (Lit.int .u32 (S i)).wf = true) :
    Calls Try.prog 24 #[.pointer (some ⟨ib, 0, none⟩), .pointer (some ⟨fb, 0, none⟩)] w (Lacked w ib v pa pl cut least n ra rl B (dl m D S Q)) := by
  have hnn := fun wx => run_eql_pointer_nil (P := Try.prog) (w := wx) 34 (some ⟨fb, 0, none⟩) (by kernel_rfl)
  have hlt := hI.lt
  have hc4 := hI.c4
  have hne : ib ≠ w.heap.size := by omega
  have HI : Hid (Inst w ib v pa pl cut least (some ⟨g0, 0, none⟩) n n ra rl) := hI
  have HP : Hid (∀ i, i < n → w.cell? ⟨g0, i, none⟩ = some (.pointer (some ⟨B i, 0, none⟩))) := hp
  have HB : Hid (∀ i, i < n → Box w (B i) (S i) (Q i)) := hB
  have HW : Hid (∀ i, i < n → (Lit.int .u32 (S i)).wf = true) := hw
  have HF : Hid (Flu w fb m) := hF
  have HO : Hid (MapOwn w m D) := hO
  have HL : Hid (∀ b, m = some b → b < w.heap.size) := fun b e => by
    rcases hO with h | ⟨b', n', h1, h2⟩
    · rw [h] at e; cases e
    · rw [h1] at e; cases e; exact h2.lt
  clear hI hp hB hw hF hO
  go_enter Try.func24, Try.ntmps24
  go_wp2_with fail
  have hba : Below w.heap.size w (w.alloc (.cells #[.pointer (some ⟨fb, 0, none⟩)] 34)) := (Below.refl w.heap.size w).alloc (Nat.le_refl _) _
  refine (clone30_some ⟨g0, 0, none⟩ n n B _ hn (fun j hj => by rw [show (⟨g0, 0, none⟩ : Addr).add j = ⟨g0, j, none⟩ by rw [Addr.add_lit]; simp]; exact (hba.cell (p := ⟨g0, j, none⟩) hg0).trans (HP.out j hj))).mono ?_
  rintro e w1 ⟨v', rfl, hown, hnil, hb1⟩
  obtain ⟨g, cap, hv'⟩ : ∃ g cap, v' = .slice (some ⟨g, 0, none⟩) n cap := by
    rcases hown.2 with ⟨h, _⟩ | ⟨g, cap, cur, h, _⟩
    · exact absurd h hnil
    · exact ⟨g, cap, h⟩
  rw [hv'] at hown ⊢
  obtain ⟨hbg, hncap, hcmax, h, hrow, hxs⟩ := row_of hown
  have hs1 : w.heap.size + 1 ≤ w1.heap.size := by have := hb1.size; simpa using this
  have hbg' : w.heap.size + 1 ≤ g := by simpa using hbg
  have hbe : Below w.heap.size w w1 := hba.trans (hb1.mono (by simp))
  have hrb : w1.cell? ⟨w.heap.size, 0, none⟩ = some (.pointer (some ⟨fb, 0, none⟩)) := (hb1.cell (p := ⟨w.heap.size, 0, none⟩) (by simp)).trans (by simp)
  have hR : Rep w1 w.heap.size fb m D := ⟨by omega, Nat.lt_of_lt_of_le HF.out.1 hbe.size, hrb, (HF.out.below hbe).2, HO.out.below hbe⟩
  have hd := del29_at (w.heap.size + 1) g n cap w.heap.size fb m D S Q B h w1 hn hncap hcmax hR hrow (fun t ht => by have := hxs t ht; simp [ht] at this; exact this.symm) (fun i hi => (HB.out i hi).below hbe (HB.out i hi).lt) HW.out hbg' (by omega) (by have := HF.out.1; omega) (fun b e => by have := HL.out b e; omega) (fun i hi => by have := (HB.out i hi).lt; omega)
  have HD : Hid (Calls Try.prog 29 #[.slice (some ⟨g, 0, none⟩) n cap, .func (.func 31) #[] #[.pointer (some ⟨w.heap.size, 0, none⟩)]] w1 (Deld (w.heap.size + 1) w1 g n cap B (dl m D S Q))) := hd
  have HG : Hid (g < w1.heap.size) := hrow.lt
  clear hd hR hrb hrow hxs hown hnil hv' hbg hba hb1 hcmax hncap
  have hc4' : w1.cell? ⟨ib, 4, none⟩ = some (.slice (some ⟨g0, 0, none⟩) n n) := (hbe.cell (by exact hlt)).trans hc4
  clear hc4
  go_wp2_with fail
  refine (HD.out).mono ?_
  rintro e w2 ⟨rfl, hb2, hcells⟩
  have hbf : Below w.heap.size w w2 := hbe.trans (hb2.mono (by omega))
  have HI2 : Hid (Inst w2 ib v pa pl cut least (some ⟨g0, 0, none⟩) n n ra rl) := HI.out.below hbf
  have hg2 : g < w2.heap.size := Nat.lt_of_lt_of_le HG.out hb2.size
  have HC : Hid (∀ t, t < (kp (dl m D S Q) n).length → w2.cell? ⟨g, t, none⟩ = some (.pointer (some ⟨B ((kp (dl m D S Q) n).getD t 0), 0, none⟩))) := hcells
  clear hcells hc4' hb2 hbe HI HD HG
  have i0 := HI2.out.c0
  have i1 := HI2.out.c1
  have i2 := HI2.out.c2
  have i3 := HI2.out.c3
  have i4 := HI2.out.c4
  have i5 := HI2.out.c5
  have hib : ib ≠ w2.heap.size := by have := HI2.out.lt; omega
  have hle := kp_le (dl m D S Q) n
  by_cases hcn : (kp (dl m D S Q) n).length = n
  · have HCN : Hid ((kp (dl m D S Q) n).length = n) := hcn
    have hcb : (((kp (dl m D S Q) n).length : Int) == (n : Int)) = true := by rw [beq_iff_eq]; omega
    clear hcn
    go_wp2
    go_ret
    exact ⟨hbf, .inl ⟨HCN.out, rfl⟩⟩
  · have HCN : Hid ((kp (dl m D S Q) n).length ≠ n) := hcn
    have hcb : (((kp (dl m D S Q) n).length : Int) == (n : Int)) = false := by rw [beq_eq_false_iff_ne]; omega
    clear hcn
    go_wp2
    go_ret
    refine ⟨hbf.alloc hbf.size _, .inr ⟨HCN.out, w2.heap.size, g, cap, rfl, hbf.size, ⟨Go.Deep.blk_alloc_new _ _⟩, by simp; omega, fun t ht => ?_⟩⟩
    exact (((Below.refl w2.heap.size w2).alloc (Nat.le_refl _) _).cell (p := ⟨g, t, none⟩) hg2).trans (HC.out t ht)

theorem lack24 (ib fb : Nat) (v : Int) (pa : Option Addr) (pl : Nat) (cut least : Option Nat) (da : Option Addr) (n : Nat) (ra : Option Addr) (rl : Nat) (m : Option Nat) (D : DataW Unit) (S Q : Nat → Int) (B : Nat → Nat) (w : World)
    (hI : Inst w ib v pa pl cut least da n n ra rl) (hF : Flu w fb m) (hO : MapOwn w m D) (hn : n ≤ 65536) (hK : Kept w da n S Q B) (hw : ∀ i, i < n → (Lit.int .u32 (S i)).wf = true) :
    Calls Try.prog 24 #[.pointer (some ⟨ib, 0, none⟩), .pointer (some ⟨fb, 0, none⟩)] w (Lacked w ib v pa pl cut least n ra rl B (dl m D S Q)) := by
  by_cases h0 : n = 0
  · subst h0
    cases da with
    | none => exact lack24_none ib fb v pa pl cut least ra rl w hI B _
    | some ad => exact lack24_zero ib fb v pa pl cut least ad 0 ra rl w hI B _
  · rcases hK with h | ⟨g0, rfl, hg, hp, hB⟩
    · exact absurd h h0
    · exact lack24_at ib fb v pa pl cut least g0 n ra rl m D S Q B w hI hF hO (by omega) hn hg hp hB hw

def Ptr (R : Ending → World → Prop) (e : Ending) (w' : World) : Prop := ∃ u, e = .returned (.pointer (some u)) ∧ R e w'

set_option maxHeartbeats 400000 in
theorem zz12 (x y : Option Addr) (w : World) (R : Ending → World → Prop) (h : Calls Try.prog 24 #[.pointer x, .pointer y] w (Ptr R)) : Calls Try.prog 12 #[.pointer x, .pointer y] w (Ptr R) := by
  have H : Hid (Calls Try.prog 24 #[.pointer x, .pointer y] w (Ptr R)) := h
  clear h
  go_enter Try.func12, Try.ntmps12
  go_wp2_with fail
  refine (H.out).mono ?_
  rintro e w1 ⟨u, rfl, hr⟩
  have HR : Hid (R (.returned (.pointer (some u))) w1) := hr
  clear hr
  go_wp2
  go_ret
  exact ⟨u, rfl, HR.out⟩

end Go.Proofs.Qxb6604164a
