/-
  PEERS AND RUNS: the walks of lawPeersLeft (21), lawMakePeers (22), lawMakeRuns (23), lawSamePeers (25).
-/
import Derived.Test.Qxb6604164aMake
namespace Go.Proofs.Qxb6604164a
open Go.RowKit
set_option linter.unusedVariables false

/-- 'len' LawPeer lie in block b from offset 'off' on, three cells each. -/
structure PeersAt (w : World) (b off len : Nat) (I N : Nat → Int) (A : Nat → ByteArray) : Prop where
  c0 : ∀ i, i < len → w.cell? ⟨b, off + i * 3, none⟩ = some (.int .u32 (I i))
  c1 : ∀ i, i < len → w.cell? ⟨b, off + i * 3 + 1, none⟩ = some (.string (A i))
  c2 : ∀ i, i < len → w.cell? ⟨b, off + i * 3 + 2, none⟩ = some (.int .u64 (N i))

def Peers (w : World) (a : Option Addr) (len : Nat) (I N : Nat → Int) (A : Nat → ByteArray) : Prop :=
  len = 0 ∨ ∃ b off, a = some ⟨b, off, none⟩ ∧ b < w.heap.size ∧ PeersAt w b off len I N A

theorem PeersAt.below {w w' : World} {b off len : Nat} {I N : Nat → Int} {A : Nat → ByteArray} (h : PeersAt w b off len I N A) {B : Nat} (hb : Below B w w') (hB : b < B) : PeersAt w' b off len I N A :=
  ⟨fun i hi => (hb.cell (by exact hB)).trans (h.c0 i hi), fun i hi => (hb.cell (by exact hB)).trans (h.c1 i hi), fun i hi => (hb.cell (by exact hB)).trans (h.c2 i hi)⟩

theorem Peers.below {w w' : World} {a : Option Addr} {len : Nat} {I N : Nat → Int} {A : Nat → ByteArray} (h : Peers w a len I N A) (hb : Below w.heap.size w w') : Peers w' a len I N A := by
  rcases h with h | ⟨b, off, ha, hl, h⟩
  · exact .inl h
  · exact .inr ⟨b, off, ha, Nat.lt_of_lt_of_le hl hb.size, h.below hb hl⟩

theorem zero76 : (Try.prog.info? 76).map (fun i => (i.zero, i.size, i.bytes)) = some (some (.agg #[.int .u32 0, .string ByteArray.empty, .int .u64 0]), 3, 32) := by kernel_rfl

theorem other1 {w : World} {g b o o1 : Nat} {u : Value} (h : b ≠ g) : (w.setCell ⟨g, o1, none⟩ u).cell? ⟨b, o, none⟩ = w.cell? ⟨b, o, none⟩ :=
  World.cell?_of_block (Go.Deep.blk_setCell_other _ _ _ _ h)
theorem far3 {w : World} {g b o o1 o2 o3 : Nat} {u1 u2 u3 : Value} (h : b ≠ g) : (((w.setCell ⟨g, o1, none⟩ u1).setCell ⟨g, o2, none⟩ u2).setCell ⟨g, o3, none⟩ u3).drew.cell? ⟨b, o, none⟩ = w.cell? ⟨b, o, none⟩ := by
  show (((w.setCell ⟨g, o1, none⟩ u1).setCell ⟨g, o2, none⟩ u2).setCell ⟨g, o3, none⟩ u3).cell? ⟨b, o, none⟩ = _
  rw [other1 h, other1 h, other1 h]

/-- A row of group.Peer of the call's own. -/
def PRow (w : World) (g len : Nat) : Prop :=
  ∃ f : Nat → Value, w.rowIs g 76 (len * 3) f ∧ ∀ i, i < len → (∃ a, f (i * 3) = .int .u32 a) ∧ (∃ s, f (i * 3 + 1) = .string s) ∧ ∃ c, f (i * 3 + 2) = .int .u64 c

theorem made3 (x y z : Value) (n i : Nat) (hi : i < n * 3) : (madeCells #[x, y, z] (n * 3))[i]? = some (if i % 3 = 0 then x else if i % 3 = 1 then y else z) := by
  have h3 : i % 3 < 3 := Nat.mod_lt _ (by omega)
  simp [madeCells, hi]
  rcases (show i % 3 = 0 ∨ i % 3 = 1 ∨ i % 3 = 2 by omega) with h | h | h <;> simp [h]

theorem PRow.start (w : World) (len : Nat) : PRow (w.alloc (.cells (madeCells #[.int .u32 0, .string ByteArray.empty, .int .u64 0] (len * 3)) 76)) w.heap.size len :=
  ⟨_, ⟨_, Go.Deep.blk_alloc_new _ _, size_madeCells _ _, fun i hi => made3 _ _ _ _ _ hi⟩, fun i hi =>
    ⟨⟨0, by rw [if_pos (by omega)]⟩, ⟨ByteArray.empty, by rw [if_neg (by omega), if_pos (by omega)]⟩, 0, by rw [if_neg (by omega), if_neg (by omega)]⟩⟩

theorem PRow.step {w : World} {g len k : Nat} (h : PRow w g len) (hk : k < len) (a c : Int) (s : ByteArray) : PRow (((w.setCell ⟨g, k * 3, none⟩ (.int .u32 a)).setCell ⟨g, k * 3 + 1, none⟩ (.string s)).setCell ⟨g, k * 3 + 2, none⟩ (.int .u64 c)).drew g len := by
  obtain ⟨f, hr, hf⟩ := h
  refine ⟨_, (((hr.set _ _).set _ _).set _ _).drew, fun i hi => ?_⟩
  obtain ⟨⟨a', ha⟩, ⟨s', hs⟩, c', hc⟩ := hf i hi
  by_cases e : i = k
  · subst e
    exact ⟨⟨a, by simp⟩, ⟨s, by simp⟩, c, by simp⟩
  · refine ⟨⟨a', ?_⟩, ⟨s', ?_⟩, c', ?_⟩
    · rw [if_neg (by omega), if_neg (by omega), if_neg (by omega)]; exact ha
    · rw [if_neg (by omega), if_neg (by omega), if_neg (by omega)]; exact hs
    · rw [if_neg (by omega), if_neg (by omega), if_neg (by omega)]; exact hc

/-- A slice of group.Peer of the call's own. -/
def PSl (w : World) (a : Option Addr) (len : Nat) : Prop := len = 0 ∨ ∃ g, a = some ⟨g, 0, none⟩ ∧ PRow w g len
theorem PSl.below {w w' : World} {a : Option Addr} {len : Nat} (h : PSl w a len) (hb : Below w.heap.size w w') : PSl w' a len := by
  rcases h with h | ⟨g, ha, f, hr, hf⟩
  · exact .inl h
  · exact .inr ⟨g, ha, f, hr.of_block (hb.block _ hr.lt), hf⟩

def MadeP (w : World) (len : Nat) (e : Ending) (w' : World) : Prop := ∃ a, e = .returned (.slice a len len) ∧ PSl w' a len ∧ Below w.heap.size w w'

set_option maxHeartbeats 1000000 in
theorem peers22_at (b off len cap : Nat) (I N : Nat → Int) (A : Nat → ByteArray) (w : World) (hb : b < w.heap.size) (hM : PeersAt w b off len I N A) (hlen : len ≤ 65536) :
    Calls Try.prog 22 #[.slice (some ⟨b, off, none⟩) len cap] w (MadeP w len) := by
  have hnil := fun wx => Lib.run_eql_slice_nil (P := Try.prog) wx 23 57 (some ⟨b, off, none⟩) len cap 0 0 Try.underlying23
  obtain ⟨i0, hi, hz0, hz1, hz2⟩ := info_parts zero76
  have hmk : ∀ wx : World, (Instr.makeSlice 36 (.int .i64 (len : Int)) (.int .i64 (len : Int))).run Try.prog wx = .ok (.slice (some ⟨wx.heap.size, 0, none⟩) len len) (wx.alloc (.cells (madeCells #[.int .u32 0, .string ByteArray.empty, .int .u64 0] (len * 3)) 76)) := fun wx => by
    have hr := run_make (P := Try.prog) wx 36 76 i0 _ Try.underlying36 hi hz0 .i64 .i64 len len (by omega) (Int.le_refl _) (by rw [hz2]; omega) (by omega)
    simp only [Int.toNat_natCast, hz1] at hr
    exact hr
  have HM : Hid (PeersAt w b off len I N A) := hM
  clear hM
  go_enter Try.func22, Try.ntmps22
  go_wp2
  go_loopw [4] (fun i wr => ∃ k : Nat, k ≤ len ∧ i = .int .i64 k ∧ Below w.heap.size w wr ∧ PRow wr w.heap.size len) (fun i _ => len - (intOf i).toNat)
  case atStart => exact ⟨0, Nat.zero_le _, rfl, (Below.refl _ _).alloc (Nat.le_refl _) _, PRow.start _ _⟩
  case round =>
    obtain ⟨k, hk, rfl, hbel, hrow⟩ := hrel
    by_cases hlt : k < len
    · have hM := HM.out.below hbel hb
      have h0 := hM.c0 k hlt
      have h1 := hM.c1 k hlt
      have h2 := hM.c2 k hlt
      have hi1 : (k : Int) < (len : Int) := by omega
      have hne : b ≠ w.heap.size := by omega
      obtain ⟨f, hr, hf⟩ := id hrow
      obtain ⟨⟨a', ha⟩, ⟨s', hs⟩, c', hc⟩ := hf k hlt
      have hg0 : wr.cell? ⟨w.heap.size, k * 3, none⟩ = some (.int .u32 a') := by rw [hr.cell (by omega), ha]
      have hg1 : wr.cell? ⟨w.heap.size, k * 3 + 1, none⟩ = some (.string s') := by rw [hr.cell (by omega), hs]
      have hg2 : wr.cell? ⟨w.heap.size, k * 3 + 2, none⟩ = some (.int .u64 c') := by rw [hr.cell (by omega), hc]
      have hf0 := hr.frozen (k * 3)
      have hf1 := hr.frozen (k * 3 + 1)
      have hf2 := hr.frozen (k * 3 + 2)
      clear hM hr hf ha hs hc
      go_wp2
      go_region_held3 (fun w' => w'.cell? ⟨b, off + k * 3, none⟩ = some (.int .u32 (I k)) ∧ w'.cell? ⟨b, off + k * 3 + 1, none⟩ = some (.string (A k)) ∧ w'.cell? ⟨b, off + k * 3 + 2, none⟩ = some (.int .u64 (N k))) (first | (go_keep; done) | exact ⟨(far3 hne).trans h0, (far3 hne).trans h1, (far3 hne).trans h2⟩) (fail)
      go_wp2
      go_roundw
      case rel => exact ⟨k + 1, by omega, by go_num, (((hbel.setCell (Nat.le_refl _) _).setCell (Nat.le_refl _) _).setCell (Nat.le_refl _) _).drew, hrow.step hlt _ _ _⟩
      case measure => simp [intOf]; omega
    · go_wp2
      go_ret
      exact ⟨_, rfl, .inr ⟨_, rfl, hrow⟩, hbel⟩

set_option maxHeartbeats 400000 in
theorem peers22_nil (cap : Nat) (w : World) : Calls Try.prog 22 #[.slice none 0 cap] w (MadeP w 0) := by
  have hnil := fun wx => Lib.run_eql_slice_nil (P := Try.prog) wx 23 57 none 0 cap 0 0 Try.underlying23
  go_enter Try.func22, Try.ntmps22
  go_wp2
  go_ret
  exact ⟨none, rfl, .inl rfl, Below.refl _ _⟩

set_option maxHeartbeats 400000 in
theorem peers22_zero (a : Addr) (cap : Nat) (w : World) : Calls Try.prog 22 #[.slice (some a) 0 cap] w (MadeP w 0) := by
  have hnil := fun wx => Lib.run_eql_slice_nil (P := Try.prog) wx 23 57 (some a) 0 cap 0 0 Try.underlying23
  obtain ⟨i0, hi, hz0, hz1, hz2⟩ := info_parts zero76
  have hmk : ∀ wx : World, (Instr.makeSlice 36 (.int .i64 0) (.int .i64 0)).run Try.prog wx = .ok (.slice (some ⟨wx.heap.size, 0, none⟩) 0 0) (wx.alloc (.cells (madeCells #[.int .u32 0, .string ByteArray.empty, .int .u64 0] 0) 76)) := fun wx => by
    have hr := run_make (P := Try.prog) wx 36 76 i0 _ Try.underlying36 hi hz0 .i64 .i64 0 0 (by omega) (Int.le_refl _) (by omega) (by omega)
    simp only [show (0 : Int).toNat = 0 from rfl, Nat.zero_mul] at hr
    exact hr
  go_enter Try.func22, Try.ntmps22
  go_wp2
  go_loop [4] (fun i => i = .int .i64 0) (fun i => 0 - (intOf i).toNat)
  case atStart => exact rfl
  case round =>
    obtain rfl := hrel
    go_wp2
    go_ret
    exact ⟨_, rfl, .inl rfl, (Below.refl _ _).alloc (Nat.le_refl _) _⟩

theorem peers22 (a : Option Addr) (len cap : Nat) (I N : Nat → Int) (A : Nat → ByteArray) (w : World) (hM : Peers w a len I N A) (hlen : len ≤ 65536) :
    Calls Try.prog 22 #[.slice a len cap] w (MadeP w len) := by
  rcases hM with rfl | ⟨b, off, rfl, hb, hM⟩
  · cases a with
    | none => exact peers22_nil cap w
    | some a => exact peers22_zero a cap w
  · exact peers22_at b off len cap I N A w hb hM hlen

set_option maxHeartbeats 400000 in
theorem left21_at (r : Int) (b off len cap : Nat) (I N : Nat → Int) (A : Nat → ByteArray) (w : World) (hM : PeersAt w b off len I N A) (hlen : len ≤ 65536) (hA : ∀ i, i < len → (A i).size ≤ maxLen) (h0 : -100000000 ≤ r) (h1 : r ≤ 1048576) :
    Calls Try.prog 21 #[.slice (some ⟨b, off, none⟩) len cap, .int .i64 r] w (fun e w' => ∃ r', e = .returned (.int .i64 r') ∧ w = w' ∧ Hid (-1000000000 ≤ r' ∧ r' ≤ 1048576)) := by
  unfold maxLen at hA
  go_enter Try.func21, Try.ntmps21
  go_wp2
  go_loop [1, 5] (fun z i => ∃ k : Nat, ∃ n : Int, k ≤ len ∧ i = .int .i64 k ∧ z = .int .i64 n ∧ -1000000000 ≤ n ∧ n ≤ 1048576) (fun _ i => len - (intOf i).toNat)
  case atStart => exact ⟨0, r, Nat.zero_le _, rfl, rfl, by omega, by omega⟩
  case round =>
    obtain ⟨k, n, hk, rfl, rfl, hn0, hn1⟩ := hrel
    by_cases hlt : k < len
    · have hc := hM.c1 k hlt
      have hp := hA k hlt
      by_cases hneg : n < 0
      · go_wp2
        go_ret
        exact ⟨_, rfl, rfl, by omega, by omega⟩
      · have hd : decide (n < 0) = false := by simpa using hneg
        go_wp2
        · go_ret
          exact ⟨_, rfl, rfl, by omega, by omega⟩
        · go_round
          case rel => exact ⟨k + 1, n - (32 + (A k).size), by omega, by go_num, by go_num, by omega, by omega⟩
          case measure => simp [intOf]; omega
    · go_wp2
      go_ret
      exact ⟨_, rfl, rfl, by omega, by omega⟩

set_option maxHeartbeats 400000 in
theorem left21_zero (r : Int) (a : Option Addr) (cap : Nat) (w : World) (h0 : -100000000 ≤ r) (h1 : r ≤ 1048576) :
    Calls Try.prog 21 #[.slice a 0 cap, .int .i64 r] w (fun e w' => ∃ r', e = .returned (.int .i64 r') ∧ w = w' ∧ Hid (-1000000000 ≤ r' ∧ r' ≤ 1048576)) := by
  go_enter Try.func21, Try.ntmps21
  go_wp2
  go_loop [1, 5] (fun z i => i = .int .i64 0 ∧ z = .int .i64 r) (fun _ i => 0 - (intOf i).toNat)
  case atStart => exact ⟨rfl, rfl⟩
  case round =>
    obtain ⟨rfl, rfl⟩ := hrel
    go_wp2
    go_ret
    exact ⟨_, rfl, rfl, by omega, by omega⟩

theorem left21 (r : Int) (a : Option Addr) (len cap : Nat) (I N : Nat → Int) (A : Nat → ByteArray) (w : World) (hM : Peers w a len I N A) (hlen : len ≤ 65536) (hA : ∀ i, i < len → (A i).size ≤ maxLen) (h0 : -100000000 ≤ r) (h1 : r ≤ 1048576) :
    Calls Try.prog 21 #[.slice a len cap, .int .i64 r] w (fun e w' => ∃ r', e = .returned (.int .i64 r') ∧ w = w' ∧ Hid (-1000000000 ≤ r' ∧ r' ≤ 1048576)) := by
  rcases hM with rfl | ⟨b, off, rfl, _, hM⟩
  · exact left21_zero r a cap w h0 h1
  · exact left21_at r b off len cap I N A w hM hlen hA h0 h1

theorem neq76 (a c : Int) (s : ByteArray) (w : World) : (binOp .neq 76 (.agg #[.int .u32 a, .string s, .int .u64 c]) (.agg #[.int .u32 a, .string s, .int .u64 c])).run Try.prog w = .ok (.bool false) w := by
  have hS : Try.prog.underlying 76 = some (.struct (Try.prog.fieldsOf 76)) := by kernel_rfl
  have hp : Try.prog.stoodInHeld 76 = false := by kernel_rfl
  rw [run_neq_struct, show (10000 : Nat) = 9999 + 1 from rfl, run_equalIn_agg w 9999 76 _ _ hS hp]
  simp only [Program.fieldsOf, Try.underlying76]
  go_simp

end Go.Proofs.Qxb6604164a
