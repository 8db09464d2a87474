/-
  THE WALK OF ZZcheckCRLNumber (10).
-/
import Derived.Test.Qxb6604502aDoorCheck
namespace Go.Proofs.Qxb6604502aDoor
open Go.RowKit
set_option linter.unusedVariables false

/-- A slice of identifiers: the outer cells, and each identifier's own. -/
structure Ids (w : World) (a : Option Addr) (n : Nat) (IA : Nat → Option Addr) (IL IC : Nat → Nat) (Z : Nat → Nat → Int) : Prop where
  out : n = 0 ∨ ∃ b off, a = some ⟨b, off, none⟩ ∧ b < w.heap.size ∧ ∀ i, i < n → w.cell? ⟨b, off + i, none⟩ = some (.slice (IA i) (IL i) (IC i))
  rows : ∀ i, i < n → Ints w (IA i) (IL i) (Z i)

theorem Ids.below {w w' : World} {a : Option Addr} {n : Nat} {IA : Nat → Option Addr} {IL IC : Nat → Nat} {Z : Nat → Nat → Int} (h : Ids w a n IA IL IC Z) (hb : Below w.heap.size w w') : Ids w' a n IA IL IC Z := by
  refine ⟨?_, fun i hi => (h.rows i hi).below hb⟩
  rcases h.out with h | ⟨b, off, ha, hl, h⟩
  · exact .inl h
  · exact .inr ⟨b, off, ha, Nat.lt_of_lt_of_le hl hb.size, fun i hi => (hb.cell (by exact hl)).trans (h i hi)⟩

/-- A slice of bools. -/
def Bools (w : World) (a : Option Addr) (n : Nat) (C : Nat → Bool) : Prop :=
  n = 0 ∨ ∃ b off, a = some ⟨b, off, none⟩ ∧ b < w.heap.size ∧ ∀ i, i < n → w.cell? ⟨b, off + i, none⟩ = some (.bool (C i))

theorem Bools.below {w w' : World} {a : Option Addr} {n : Nat} {C : Nat → Bool} (h : Bools w a n C) (hb : Below w.heap.size w w') : Bools w' a n C := by
  rcases h with h | ⟨b, off, ha, hl, h⟩
  · exact .inl h
  · exact .inr ⟨b, off, ha, Nat.lt_of_lt_of_le hl hb.size, fun i hi => (hb.cell (by exact hl)).trans (h i hi)⟩

/-- The package's identifier of the CRL Number, in its variable's block. -/
structure Oid (w : World) (o : Option Addr) (oc : Nat) : Prop where
  pos : 0 < w.heap.size
  cell : w.cell? ⟨0, 0, none⟩ = some (.slice o 4 oc)
  row : Ints w o 4 oidZ
theorem Oid.below {w w' : World} {o : Option Addr} {oc : Nat} (h : Oid w o oc) (hb : Below w.heap.size w w') : Oid w' o oc :=
  ⟨Nat.lt_of_lt_of_le h.pos hb.size, (hb.cell (by exact h.pos)).trans h.cell, h.row.below hb⟩

theorem zero37 : (Tryd.prog.info? 37).map (fun i => (i.zero, i.size, i.bytes)) = some (some (.agg #[.slice none 0 0, .bool false, .slice none 0 0]), 3, 56) := by kernel_rfl

def XRow (w : World) (g n k : Nat) (IA : Nat → Option Addr) (IL IC : Nat → Nat) (C : Nat → Bool) : Prop :=
  ∃ f : Nat → Value, w.rowIs g 37 (n * 3) f ∧ ∀ i, i < k → f (i * 3) = .slice (IA i) (IL i) (IC i) ∧ f (i * 3 + 1) = .bool (C i) ∧ f (i * 3 + 2) = .slice none 0 0

theorem made3 (x y z : Value) (n i : Nat) (hi : i < n * 3) : (madeCells #[x, y, z] (n * 3))[i]? = some (if i % 3 = 0 then x else if i % 3 = 1 then y else z) := by
  have h3 : i % 3 < 3 := Nat.mod_lt _ (by omega)
  simp [madeCells, hi]
  rcases (show i % 3 = 0 ∨ i % 3 = 1 ∨ i % 3 = 2 by omega) with h | h | h <;> simp [h]

theorem XRow.start (w : World) (n : Nat) (IA : Nat → Option Addr) (IL IC : Nat → Nat) (C : Nat → Bool) : XRow (w.alloc (.cells (madeCells #[.slice none 0 0, .bool false, .slice none 0 0] (n * 3)) 37)) w.heap.size n 0 IA IL IC C :=
  ⟨_, ⟨_, Go.Deep.blk_alloc_new _ _, size_madeCells _ _, fun i hi => made3 _ _ _ _ _ hi⟩, fun i hi => absurd hi (Nat.not_lt_zero _)⟩

theorem XRow.step {w : World} {g n k : Nat} {IA : Nat → Option Addr} {IL IC : Nat → Nat} {C : Nat → Bool} (h : XRow w g n k IA IL IC C) (hk : k < n) : XRow (((w.setCell ⟨g, k * 3, none⟩ (.slice (IA k) (IL k) (IC k))).setCell ⟨g, k * 3 + 1, none⟩ (.bool (C k))).setCell ⟨g, k * 3 + 2, none⟩ (.slice none 0 0)).drew g n (k + 1) IA IL IC C := by
  obtain ⟨f, hr, hf⟩ := h
  refine ⟨_, (((hr.set _ _).set _ _).set _ _).drew, fun i hi => ?_⟩
  by_cases e : i = k
  · subst e
    exact ⟨by simp, by simp, by simp⟩
  · obtain ⟨h1, h2, h3⟩ := hf i (by omega)
    refine ⟨?_, ?_, ?_⟩
    · rw [if_neg (by omega), if_neg (by omega), if_neg (by omega)]; exact h1
    · rw [if_neg (by omega), if_neg (by omega), if_neg (by omega)]; exact h2
    · rw [if_neg (by omega), if_neg (by omega), if_neg (by omega)]; exact h3

theorem far3d {w : World} {g b o o1 o2 o3 : Nat} {u1 u2 u3 : Value} (h : b ≠ g) : (((w.setCell ⟨g, o1, none⟩ u1).setCell ⟨g, o2, none⟩ u2).setCell ⟨g, o3, none⟩ u3).drew.cell? ⟨b, o, none⟩ = w.cell? ⟨b, o, none⟩ :=
  far3 h

theorem two_new (w : World) (x y : Obj) : Below w.heap.size w ((w.alloc x).alloc y) := ((Below.refl _ _).alloc (Nat.le_refl _) _).alloc (by simp) _

set_option maxHeartbeats 2000000 in
theorem zz10 (a b o : Option Addr) (n c c' oc : Nat) (IA : Nat → Option Addr) (IL IC : Nat → Nat) (C : Nat → Bool) (Z : Nat → Nat → Int) (w : World) (hn : n ≤ 1048576) (hI : Ids w a n IA IL IC Z) (hL : ∀ i, i < n → IL i ≤ 1048576) (hB : Bools w b n C) (hO : Oid w o oc) :
    Calls Tryd.prog 10 #[.slice a n c, .slice b n c'] w (Err w (Acc n IL C Z)) := by
  obtain ⟨i0, hi, hz0, hz1, hz2⟩ := info_parts zero37
  have hmk : ∀ wx : World, (Instr.makeSlice 33 (.int .i64 (n : Int)) (.int .i64 (n : Int))).run Tryd.prog wx = .ok (.slice (some ⟨wx.heap.size, 0, none⟩) n n) (wx.alloc (.cells (madeCells #[.slice none 0 0, .bool false, .slice none 0 0] (n * 3)) 37)) := fun wx => by
    have hr := run_make (P := Tryd.prog) wx 33 37 i0 _ Tryd.underlying33 hi hz0 .i64 .i64 n n (by omega) (Int.le_refl _) (by rw [hz2]; omega) (by omega)
    simp only [Int.toNat_natCast, hz1] at hr
    exact hr
  have HI : Hid (Ids w a n IA IL IC Z) := hI
  have HB : Hid (Bools w b n C) := hB
  have HO : Hid (Oid w o oc) := hO
  have HL : Hid (∀ i, i < n → IL i ≤ 1048576) := hL
  clear hI hB hO hL
  go_enter Tryd.func10, Tryd.ntmps10
  go_wp2
  go_loopw [12] (fun i wr => ∃ k : Nat, k ≤ n ∧ i = .int .i64 k ∧ Below w.heap.size w wr ∧ XRow wr w.heap.size n k IA IL IC C) (fun i _ => n - (intOf i).toNat)
  case atStart => exact ⟨0, Nat.zero_le _, rfl, (Below.refl _ _).alloc (Nat.le_refl _) _, XRow.start _ _ _ _ _ _⟩
  case round =>
    obtain ⟨k, hk, rfl, hbel, hrow⟩ := hrel
    by_cases hlt : k < n
    · rcases HI.out.out with h | ⟨ib, io, ha, hib, hic⟩
      · omega
      rcases HB.out with h | ⟨bb, bo, hb, hbb, hbc⟩
      · omega
      subst ha
      subst hb
      have h0 : wr.cell? ⟨ib, io + k, none⟩ = some (.slice (IA k) (IL k) (IC k)) := (hbel.cell (by exact hib)).trans (hic k hlt)
      have h1 : wr.cell? ⟨bb, bo + k, none⟩ = some (.bool (C k)) := (hbel.cell (by exact hbb)).trans (hbc k hlt)
      have hi1 : (k : Int) < (n : Int) := by omega
      have ne1 : ib ≠ w.heap.size := by omega
      have ne2 : bb ≠ w.heap.size := by omega
      obtain ⟨f, hr, _⟩ := id hrow
      have hg0 := hr.cell (i := k * 3) (by omega)
      have hg1 := hr.cell (i := k * 3 + 1) (by omega)
      have hg2 := hr.cell (i := k * 3 + 2) (by omega)
      have hf0 := hr.frozen (k * 3)
      have hf1 := hr.frozen (k * 3 + 1)
      have hf2 := hr.frozen (k * 3 + 2)
      clear hr hic hbc
      go_wp2
      go_region_held3 (fun w' => w'.cell? ⟨ib, io + k, none⟩ = some (.slice (IA k) (IL k) (IC k)) ∧ w'.cell? ⟨bb, bo + k, none⟩ = some (.bool (C k))) (first | (go_keep; done) | exact ⟨(far3d ne1).trans h0, (far3d ne2).trans h1⟩) (fail)
      go_wp2
      go_roundw
      case rel => exact ⟨k + 1, by omega, by go_num, (((hbel.setCell (Nat.le_refl _) _).setCell (Nat.le_refl _) _).setCell (Nat.le_refl _) _).drew, hrow.step hlt⟩
      case measure => simp [intOf]; omega
    · have hkn : n = k := by omega
      subst hkn
      have hx : Exts wr w.heap.size n IA IL IC C Z := by
        obtain ⟨f, hr, hf⟩ := hrow
        exact ⟨hr.lt, fun i hi => by rw [hr.cell (by omega), (hf i hi).1], fun i hi => by rw [hr.cell (by omega), (hf i hi).2.1], fun i hi => by rw [hr.cell (by omega), (hf i hi).2.2], fun i hi => (HI.out.rows i hi).below hbel, HL.out⟩
      have HX : Hid (Exts wr w.heap.size n IA IL IC C Z) := hx
      have HO' : Hid (Oid wr o oc) := HO.out.below hbel
      have HBL : Hid (Below w.heap.size w wr) := hbel
      clear hx hrow hbel hmk HI HB HO HL
      go_wp2_with fail
      refine (check12 (wr.heap.size + 1) wr.heap.size w.heap.size n n oc o IA IL IC C Z _ hn (HX.out.below (two_new _ _ _)) ((HO'.out.below (two_new _ _ _)).row) ?_ ?_ ((HO'.out.below (two_new _ _ _)).cell) ?_ ?_ ?_).mono ?_
      · simp
      · simp
      · simp only [World.size_alloc]; omega
      · simp only [World.size_alloc]; omega
      · simp only [World.size_alloc]; omega
      · rintro e w1 ⟨hb1, hc⟩
        have HB1 : Hid (Below w.heap.size w w1) := (HBL.out.trans ((two_new wr _ _).mono HBL.out.size)).trans (hb1.mono (by have := HBL.out.size; simp; omega))
        clear hb1
        rcases hc with ⟨rfl, hr⟩ | ⟨b', rfl, hr⟩
        · have HR : Hid (Acc n IL C Z) := hr
          clear hr
          go_wp2
          go_ret
          exact Err.yes HB1.out rfl HR.out
        · have HR : Hid (¬ Acc n IL C Z) := hr
          clear hr
          go_wp2
          go_ret
          exact Err.no HB1.out rfl HR.out

end Go.Proofs.Qxb6604502aDoor
