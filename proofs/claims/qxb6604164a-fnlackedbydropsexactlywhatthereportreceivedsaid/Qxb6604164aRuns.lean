/-
  RUNS: the walk of lawMakeRuns (23).
-/
import Derived.Test.Qxb6604164aSame
namespace Go.Proofs.Qxb6604164a
open Go.RowKit
set_option linter.unusedVariables false

/-- 'len' LawRun lie in block b from offset 'off' on, two cells each. -/
structure RunsAt (w : World) (b off len : Nat) (I N : Nat → Int) : Prop where
  c0 : ∀ i, i < len → w.cell? ⟨b, off + i * 2, none⟩ = some (.int .u32 (I i))
  c1 : ∀ i, i < len → w.cell? ⟨b, off + i * 2 + 1, none⟩ = some (.int .u64 (N i))

def Runs (w : World) (a : Option Addr) (len : Nat) (I N : Nat → Int) : Prop :=
  len = 0 ∨ ∃ b off, a = some ⟨b, off, none⟩ ∧ b < w.heap.size ∧ RunsAt w b off len I N

theorem RunsAt.below {w w' : World} {b off len : Nat} {I N : Nat → Int} (h : RunsAt w b off len I N) {B : Nat} (hb : Below B w w') (hB : b < B) : RunsAt w' b off len I N :=
  ⟨fun i hi => (hb.cell (by exact hB)).trans (h.c0 i hi), fun i hi => (hb.cell (by exact hB)).trans (h.c1 i hi)⟩

theorem Runs.below {w w' : World} {a : Option Addr} {len : Nat} {I N : Nat → Int} (h : Runs w a len I N) (hb : Below w.heap.size w w') : Runs w' a len I N := by
  rcases h with h | ⟨b, off, ha, hl, h⟩
  · exact .inl h
  · exact .inr ⟨b, off, ha, Nat.lt_of_lt_of_le hl hb.size, h.below hb hl⟩

theorem zero68 : (Try.prog.info? 68).map (fun i => (i.zero, i.size, i.bytes)) = some (some (.agg #[.int .u32 0, .int .u64 0]), 2, 16) := by kernel_rfl

theorem far2 {w : World} {g b o o1 o2 : Nat} {u1 u2 : Value} (h : b ≠ g) : ((w.setCell ⟨g, o1, none⟩ u1).setCell ⟨g, o2, none⟩ u2).drew.cell? ⟨b, o, none⟩ = w.cell? ⟨b, o, none⟩ := by
  show ((w.setCell ⟨g, o1, none⟩ u1).setCell ⟨g, o2, none⟩ u2).cell? ⟨b, o, none⟩ = _
  rw [other1 h, other1 h]

/-- A row of group.Run of the call's own. -/
def RRow (w : World) (g len : Nat) : Prop :=
  ∃ f : Nat → Value, w.rowIs g 68 (len * 2) f ∧ ∀ i, i < len → (∃ a, f (i * 2) = .int .u32 a) ∧ ∃ c, f (i * 2 + 1) = .int .u64 c

theorem made2 (x y : Value) (n i : Nat) (hi : i < n * 2) : (madeCells #[x, y] (n * 2))[i]? = some (if i % 2 = 0 then x else y) := by
  simp [madeCells, hi]
  rcases (show i % 2 = 0 ∨ i % 2 = 1 by omega) with h | h <;> simp [h]

theorem RRow.start (w : World) (len : Nat) : RRow (w.alloc (.cells (madeCells #[.int .u32 0, .int .u64 0] (len * 2)) 68)) w.heap.size len :=
  ⟨_, ⟨_, Go.Deep.blk_alloc_new _ _, size_madeCells _ _, fun i hi => made2 _ _ _ _ hi⟩, fun i hi => ⟨⟨0, by rw [if_pos (by omega)]⟩, 0, by rw [if_neg (by omega)]⟩⟩

theorem RRow.step {w : World} {g len k : Nat} (h : RRow w g len) (hk : k < len) (a c : Int) : RRow ((w.setCell ⟨g, k * 2, none⟩ (.int .u32 a)).setCell ⟨g, k * 2 + 1, none⟩ (.int .u64 c)).drew g len := by
  obtain ⟨f, hr, hf⟩ := h
  refine ⟨_, ((hr.set _ _).set _ _).drew, fun i hi => ?_⟩
  obtain ⟨⟨a', ha⟩, c', hc⟩ := hf i hi
  by_cases e : i = k
  · subst e
    exact ⟨⟨a, by simp⟩, c, by simp⟩
  · refine ⟨⟨a', ?_⟩, c', ?_⟩
    · rw [if_neg (by omega), if_neg (by omega)]; exact ha
    · rw [if_neg (by omega), if_neg (by omega)]; exact hc

/-- A slice of group.Run of the call's own. -/
def RSl (w : World) (a : Option Addr) (len : Nat) : Prop := len = 0 ∨ ∃ g, a = some ⟨g, 0, none⟩ ∧ RRow w g len
theorem RSl.below {w w' : World} {a : Option Addr} {len : Nat} (h : RSl w a len) (hb : Below w.heap.size w w') : RSl w' a len := by
  rcases h with h | ⟨g, ha, f, hr, hf⟩
  · exact .inl h
  · exact .inr ⟨g, ha, f, hr.of_block (hb.block _ hr.lt), hf⟩

def MadeR (w : World) (len : Nat) (e : Ending) (w' : World) : Prop := ∃ a, e = .returned (.slice a len len) ∧ RSl w' a len ∧ Below w.heap.size w w'

set_option maxHeartbeats 1000000 in
theorem runs23_at (b off len cap : Nat) (I N : Nat → Int) (w : World) (hb : b < w.heap.size) (hM : RunsAt w b off len I N) (hlen : len ≤ 65536) :
    Calls Try.prog 23 #[.slice (some ⟨b, off, none⟩) len cap] w (MadeR w len) := by
  have hnil := fun wx => Lib.run_eql_slice_nil (P := Try.prog) wx 26 77 (some ⟨b, off, none⟩) len cap 0 0 Try.underlying26
  obtain ⟨i0, hi, hz0, hz1, hz2⟩ := info_parts zero68
  have hmk : ∀ wx : World, (Instr.makeSlice 40 (.int .i64 (len : Int)) (.int .i64 (len : Int))).run Try.prog wx = .ok (.slice (some ⟨wx.heap.size, 0, none⟩) len len) (wx.alloc (.cells (madeCells #[.int .u32 0, .int .u64 0] (len * 2)) 68)) := fun wx => by
    have hr := run_make (P := Try.prog) wx 40 68 i0 _ Try.underlying40 hi hz0 .i64 .i64 len len (by omega) (Int.le_refl _) (by rw [hz2]; omega) (by omega)
    simp only [Int.toNat_natCast, hz1] at hr
    exact hr
  have HM : Hid (RunsAt w b off len I N) := hM
  clear hM
  go_enter Try.func23, Try.ntmps23
  go_wp2
  go_loopw [4] (fun i wr => ∃ k : Nat, k ≤ len ∧ i = .int .i64 k ∧ Below w.heap.size w wr ∧ RRow wr w.heap.size len) (fun i _ => len - (intOf i).toNat)
  case atStart => exact ⟨0, Nat.zero_le _, rfl, (Below.refl _ _).alloc (Nat.le_refl _) _, RRow.start _ _⟩
  case round =>
    obtain ⟨k, hk, rfl, hbel, hrow⟩ := hrel
    by_cases hlt : k < len
    · have hM := HM.out.below hbel hb
      have h0 := hM.c0 k hlt
      have h1 := hM.c1 k hlt
      have hi1 : (k : Int) < (len : Int) := by omega
      have hne : b ≠ w.heap.size := by omega
      obtain ⟨f, hr, hf⟩ := id hrow
      obtain ⟨⟨a', ha⟩, c', hc⟩ := hf k hlt
      have hg0 : wr.cell? ⟨w.heap.size, k * 2, none⟩ = some (.int .u32 a') := by rw [hr.cell (by omega), ha]
      have hg1 : wr.cell? ⟨w.heap.size, k * 2 + 1, none⟩ = some (.int .u64 c') := by rw [hr.cell (by omega), hc]
      have hf0 := hr.frozen (k * 2)
      have hf1 := hr.frozen (k * 2 + 1)
      clear hM hr hf ha hc
      go_wp2
      go_region_held3 (fun w' => w'.cell? ⟨b, off + k * 2, none⟩ = some (.int .u32 (I k)) ∧ w'.cell? ⟨b, off + k * 2 + 1, none⟩ = some (.int .u64 (N k))) (first | (go_keep; done) | exact ⟨(far2 hne).trans h0, (far2 hne).trans h1⟩) (fail)
      go_wp2
      go_roundw
      case rel => exact ⟨k + 1, by omega, by go_num, ((hbel.setCell (Nat.le_refl _) _).setCell (Nat.le_refl _) _).drew, hrow.step hlt _ _⟩
      case measure => simp [intOf]; omega
    · go_wp2
      go_ret
      exact ⟨_, rfl, .inr ⟨_, rfl, hrow⟩, hbel⟩

set_option maxHeartbeats 400000 in
theorem runs23_nil (cap : Nat) (w : World) : Calls Try.prog 23 #[.slice none 0 cap] w (MadeR w 0) := by
  have hnil := fun wx => Lib.run_eql_slice_nil (P := Try.prog) wx 26 77 none 0 cap 0 0 Try.underlying26
  go_enter Try.func23, Try.ntmps23
  go_wp2
  go_ret
  exact ⟨none, rfl, .inl rfl, Below.refl _ _⟩

set_option maxHeartbeats 400000 in
theorem runs23_zero (a : Addr) (cap : Nat) (w : World) : Calls Try.prog 23 #[.slice (some a) 0 cap] w (MadeR w 0) := by
  have hnil := fun wx => Lib.run_eql_slice_nil (P := Try.prog) wx 26 77 (some a) 0 cap 0 0 Try.underlying26
  obtain ⟨i0, hi, hz0, hz1, hz2⟩ := info_parts zero68
  have hmk : ∀ wx : World, (Instr.makeSlice 40 (.int .i64 0) (.int .i64 0)).run Try.prog wx = .ok (.slice (some ⟨wx.heap.size, 0, none⟩) 0 0) (wx.alloc (.cells (madeCells #[.int .u32 0, .int .u64 0] 0) 68)) := fun wx => by
    have hr := run_make (P := Try.prog) wx 40 68 i0 _ Try.underlying40 hi hz0 .i64 .i64 0 0 (by omega) (Int.le_refl _) (by omega) (by omega)
    simp only [show (0 : Int).toNat = 0 from rfl, Nat.zero_mul] at hr
    exact hr
  go_enter Try.func23, Try.ntmps23
  go_wp2
  go_loop [4] (fun i => i = .int .i64 0) (fun i => 0 - (intOf i).toNat)
  case atStart => exact rfl
  case round =>
    obtain rfl := hrel
    go_wp2
    go_ret
    exact ⟨_, rfl, .inl rfl, (Below.refl _ _).alloc (Nat.le_refl _) _⟩

theorem runs23 (a : Option Addr) (len cap : Nat) (I N : Nat → Int) (w : World) (hM : Runs w a len I N) (hlen : len ≤ 65536) :
    Calls Try.prog 23 #[.slice a len cap] w (MadeR w len) := by
  rcases hM with rfl | ⟨b, off, rfl, hb, hM⟩
  · cases a with
    | none => exact runs23_nil cap w
    | some a => exact runs23_zero a cap w
  · exact runs23_at b off len cap I N w hb hM hlen

theorem neq68 (a c : Int) (w : World) : (binOp .neq 68 (.agg #[.int .u32 a, .int .u64 c]) (.agg #[.int .u32 a, .int .u64 c])).run Try.prog w = .ok (.bool false) w := by
  have hS : Try.prog.underlying 68 = some (.struct (Try.prog.fieldsOf 68)) := by kernel_rfl
  have hp : Try.prog.stoodInHeld 68 = false := by kernel_rfl
  rw [run_neq_struct, show (10000 : Nat) = 9999 + 1 from rfl, run_equalIn_agg w 9999 68 _ _ hS hp]
  simp only [Program.fieldsOf, Try.underlying68]
  go_simp

end Go.Proofs.Qxb6604164a
