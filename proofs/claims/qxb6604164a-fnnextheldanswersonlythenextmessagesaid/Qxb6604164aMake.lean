/-
  THE WALKS OF lawMakeBytes (27), lawMakeData (17).
-/
import Derived.Test.Qxb6604164aBase
import Derived.Deep.RegionHeld3
import Derived.Deep.DrawnRows
namespace Go.Proofs.Qxb6604164a
open Go.RowKit

theorem Try.info5 : (Try.prog.info? 5).map (fun i => (i.zero, i.size, i.bytes)) = some (some (.int .u8 0), 1, 1) := by kernel_rfl
theorem Try.info43 : (Try.prog.info? 43).map (fun i => (i.zero, i.size, i.bytes)) = some (some (.pointer none), 1, 8) := by kernel_rfl

set_option maxHeartbeats 400000 in
theorem bytes27_at (b off len cap : Nat) (z : Nat → Int) (w : World) (hb : b < w.heap.size) (hc : ∀ i, i < len → w.cell? ⟨b, off + i, none⟩ = some (.int .u8 (z i))) (hlen : len ≤ 1048576) :
    Calls Try.prog 27 #[.slice (some ⟨b, off, none⟩) len cap] w (Slicy w) := by
  have hnil := fun wx => Lib.run_eql_slice_nil (P := Try.prog) wx 47 5 (some ⟨b, off, none⟩) len cap 0 0 Try.underlying47
  have hmk := fun wx => run_make_row' (P := Try.prog) 47 5 (.int .u8 0) 1 Try.underlying47 Try.info5 rfl .i64 .i64 len (by omega) (by omega) wx
  go_enter Try.func27, Try.ntmps27
  go_wp2
  go_loopw [4] (fun i wr => ∃ k : Nat, k ≤ len ∧ i = .int .i64 k ∧ Below w.heap.size w wr ∧ ∃ f : Nat → Int, wr.rowIs w.heap.size 5 len (fun j => .int .u8 (f j))) (fun i _ => len - (intOf i).toNat)
  case atStart => exact ⟨0, Nat.zero_le _, rfl, (Below.refl _ _).alloc (Nat.le_refl _) _, fun _ => 0, World.rowIs_made _ _ _ _⟩
  case round =>
    obtain ⟨k, hk, rfl, hbel, f, hrow⟩ := hrel
    by_cases hlt : k < len
    · have h1 : wr.cell? ⟨b, off + k, none⟩ = some (.int .u8 (z k)) := (hbel.cell (by exact hb)).trans (hc k hlt)
      have h2 := hrow.cell hlt
      have h3 := hrow.frozen k
      go_wp2
      go_roundw
      case rel => exact ⟨k + 1, by omega, by go_num, hbel.setCell (Nat.le_refl _) _, fun j => if j = k then z k else f j, (hrow.set k _).congr fun i _ => by dsimp only; split <;> rfl⟩
      case measure => simp [intOf]; omega
    · go_wp2
      go_ret
      exact Slicy.mk rfl hbel

set_option maxHeartbeats 400000 in
theorem bytes27_nil (c : Nat) (w : World) : Calls Try.prog 27 #[.slice none 0 c] w (Slicy w) := by
  have hnil := fun wx => Lib.run_eql_slice_nil (P := Try.prog) wx 47 5 none 0 c 0 0 Try.underlying47
  go_enter Try.func27, Try.ntmps27
  go_wp2
  go_ret
  exact Slicy.mk rfl (Below.refl _ _)

set_option maxHeartbeats 400000 in
theorem bytes27_zero (a : Addr) (c : Nat) (w : World) : Calls Try.prog 27 #[.slice (some a) 0 c] w (Slicy w) := by
  have hnil := fun wx => Lib.run_eql_slice_nil (P := Try.prog) wx 47 5 (some a) 0 c 0 0 Try.underlying47
  have hmk : ∀ wx : World, (Instr.makeSlice 47 (.int .i64 0) (.int .i64 0)).run Try.prog wx = .ok (.slice (some ⟨wx.heap.size, 0, none⟩) 0 0) (wx.alloc (.cells (madeCells #[.int .u8 0] 0) 5)) := fun wx => run_make_row' (P := Try.prog) 47 5 (.int .u8 0) 1 Try.underlying47 Try.info5 rfl .i64 .i64 0 (by omega) (by omega) wx
  go_enter Try.func27, Try.ntmps27
  go_wp2
  go_loop [4] (fun i => i = .int .i64 0) (fun i => 0 - (intOf i).toNat)
  case atStart => exact rfl
  case round =>
    obtain rfl := hrel
    go_wp2
    go_ret
    exact Slicy.mk rfl ((Below.refl _ _).alloc (Nat.le_refl _) _)

theorem bytes27 (a : Option Addr) (len cap : Nat) (w : World) (hp : Pay w a len) (hlen : len ≤ 1048576) :
    Calls Try.prog 27 #[.slice a len cap] w (Slicy w) := by
  rcases hp with rfl | ⟨b, off, rfl, hb, z, hc⟩
  · cases a with
    | none => exact bytes27_nil cap w
    | some a => exact bytes27_zero a cap w
  · exact bytes27_at b off len cap z w hb hc hlen

theorem bcell {W w1 : World} (hb : Below W.heap.size W w1) : (∀ b o, b < W.heap.size → w1.cell? ⟨b, o, none⟩ = W.cell? ⟨b, o, none⟩) ∧ (∀ b o, b < W.heap.size → w1.frozen? ⟨b, o, none⟩ = W.frozen? ⟨b, o, none⟩) :=
  ⟨fun b o h => hb.cell (p := ⟨b, o, none⟩) h, fun b o h => hb.frozen (p := ⟨b, o, none⟩) h⟩

theorem bdrew {W w1 : World} (h : Below W.drew.heap.size W.drew w1) : Below W.heap.size W w1 := ⟨h.os, h.tape, h.output, h.size, h.block⟩

theorem acell {W w1 : World} (hb : Below W.heap.size W w1) {b o : Nat} {v : Value} (h : b < W.heap.size) (hc : W.cell? ⟨b, o, none⟩ = some v) (x : Obj) : (w1.alloc x).cell? ⟨b, o, none⟩ = some v :=
  ((hb.alloc hb.size x).cell (p := ⟨b, o, none⟩) h).trans hc
theorem afrozen {W w1 : World} (hb : Below W.heap.size W w1) {b o : Nat} (h : b < W.heap.size) (hc : W.frozen? ⟨b, o, none⟩ = false) (x : Obj) : (w1.alloc x).frozen? ⟨b, o, none⟩ = false :=
  ((hb.alloc hb.size x).frozen (p := ⟨b, o, none⟩) h).trans hc

theorem farcell {W w1 : World} (hb : Below W.heap.size W w1) {b o g k : Nat} {x : Obj} {u : Value} (h : b < W.heap.size) (hne : b ≠ g) : ((w1.alloc x).setCell ⟨g, k, none⟩ u).cell? ⟨b, o, none⟩ = W.cell? ⟨b, o, none⟩ := by
  rw [← (hb.alloc hb.size x).cell (p := ⟨b, o, none⟩) h]
  exact World.cell?_of_block (Go.Deep.blk_setCell_other _ _ _ _ hne)

/-- A group.Data that the call has made, in a block of its own. -/
structure Box (w : World) (b : Nat) (s q : Int) : Prop where
  lt : b < w.heap.size
  blk : ∃ c, w.heap[b]? = some (.cells c 49 (0, 0))
  c1 : w.cell? ⟨b, 1, none⟩ = some (.int .u32 s)
  c2 : w.cell? ⟨b, 2, none⟩ = some (.int .u64 q)

/-- A slice of pointers to group.Data, all of the call's own making. -/
def Kept (w : World) (a : Option Addr) (len : Nat) (S Q : Nat → Int) (B : Nat → Nat) : Prop :=
  len = 0 ∨ ∃ g, a = some ⟨g, 0, none⟩ ∧ g < w.heap.size ∧ (∀ i, i < len → w.cell? ⟨g, i, none⟩ = some (.pointer (some ⟨B i, 0, none⟩))) ∧ ∀ i, i < len → Box w (B i) (S i) (Q i)

def Made (w : World) (len : Nat) (S Q : Nat → Int) (e : Ending) (w' : World) : Prop :=
  ∃ a B, e = .returned (.slice a len len) ∧ Kept w' a len S Q B ∧ Below w.heap.size w w'

/-- What the loop of lawMakeData has made after k rounds: the row in block g, k boxes behind it. -/
def Rnd (g : Nat) (wr : World) (len k : Nat) (S Q : Nat → Int) : Prop :=
  ∃ B : Nat → Nat, wr.rowIs g 43 len (fun j => .pointer (if j < k then some ⟨B j, 0, none⟩ else none)) ∧ ∀ j, j < k → g < B j ∧ Box wr (B j) (S j) (Q j)

theorem Rnd.step {w wr w1 : World} {len k : Nat} {S Q : Nat → Int} (h : Rnd w.heap.size wr len k S Q) (hbel : Below w.heap.size w wr) (hb2 : Below wr.heap.size wr w1) (hk : k < len) (v t : Int) (a : Option Addr) (l c : Nat) :
    Below w.heap.size w ((w1.alloc (.cells #[.int .u64 v, .int .u32 (S k), .int .u64 (Q k), .int .u64 t, .slice a l c] 49)).setCell ⟨w.heap.size, k, none⟩ (.pointer (some ⟨w1.heap.size, 0, none⟩))) ∧
    Rnd w.heap.size ((w1.alloc (.cells #[.int .u64 v, .int .u32 (S k), .int .u64 (Q k), .int .u64 t, .slice a l c] 49)).setCell ⟨w.heap.size, k, none⟩ (.pointer (some ⟨w1.heap.size, 0, none⟩))) len (k + 1) S Q := by
  obtain ⟨B, hrow, hbox⟩ := h
  have hgr : w.heap.size < wr.heap.size := hrow.lt
  have hz := hb2.size
  refine ⟨((hbel.trans (hb2.mono (by omega))).alloc (by omega) _).setCell (Nat.le_refl _) _, fun j => if j = k then w1.heap.size else B j, ?_, fun j hj => ?_⟩
  · refine ((((hrow.of_block (hb2.block _ hgr)).alloc _).set k _)).congr fun i _ => ?_
    dsimp only
    by_cases e : i = k
    · subst e
      simp
    · simp only [if_neg e]
      by_cases e2 : i < k
      · rw [if_pos e2, if_pos (by omega)]
      · rw [if_neg e2, if_neg (by omega)]
  · by_cases e : j = k
    · subst e
      simp only [if_true]
      refine ⟨by omega, by simp [World.setCell], ⟨_, (Go.Deep.blk_setCell_other _ _ _ _ (by show w1.heap.size ≠ w.heap.size; omega)).trans (Go.Deep.blk_alloc_new _ _)⟩, ?_, ?_⟩
      · rw [World.cell?_of_block (Go.Deep.blk_setCell_other _ _ _ _ (by show w1.heap.size ≠ w.heap.size; omega))]
        simp
      · rw [World.cell?_of_block (Go.Deep.blk_setCell_other _ _ _ _ (by show w1.heap.size ≠ w.heap.size; omega))]
        simp
    · simp only [if_neg e]
      obtain ⟨h1, h2, ⟨cb, h5⟩, h3, h4⟩ := hbox j (by omega)
      exact ⟨h1, by rw [Go.Deep.nblk_setCell, Go.Deep.nblk_alloc]; omega, ⟨cb, ((Go.Deep.blk_setCell_other _ _ _ _ (by show B j ≠ w.heap.size; omega)).trans ((Go.Deep.blk_alloc_lt _ _ _ (by omega)).trans (hb2.block _ h2))).trans h5⟩, (farcell hb2 h2 (by omega)).trans h3, (farcell hb2 h2 (by omega)).trans h4⟩

theorem Rnd.done {w wr : World} {len : Nat} {S Q : Nat → Int} {e : Ending} (h : Rnd w.heap.size wr len len S Q) (hbel : Below w.heap.size w wr) (he : e = .returned (.slice (some ⟨w.heap.size, 0, none⟩) len len)) : Made w len S Q e wr := by
  obtain ⟨B, hrow, hbox⟩ := h
  exact ⟨_, B, he, .inr ⟨_, rfl, hrow.lt, fun i hi => by simpa [hi] using hrow.cell hi, fun i hi => (hbox i hi).2⟩, hbel⟩

set_option maxHeartbeats 1000000 in
theorem data17_at (b off len cap : Nat) (V S Q T : Nat → Int) (PA : Nat → Option Addr) (PL PC : Nat → Nat) (w : World) (hb : b < w.heap.size)
    (hM : MsgsAt w b off len V S Q T PA PL PC) (hlen : len ≤ 1048576) (hPL : ∀ i, i < len → PL i ≤ 1048576) (hPay : ∀ i, i < len → Pay w (PA i) (PL i)) :
    Calls Try.prog 17 #[.slice (some ⟨b, off, none⟩) len cap] w (Made w len S Q) := by
  have hnil := fun wx => Lib.run_eql_slice_nil (P := Try.prog) wx 27 58 (some ⟨b, off, none⟩) len cap 0 0 Try.underlying27
  have hmk := fun wx => run_make_row' (P := Try.prog) 39 43 (.pointer none) 8 Try.underlying39 Try.info43 rfl .i64 .i64 len (by omega) (by omega) wx
  go_enter Try.func17, Try.ntmps17
  go_wp2
  go_loopw [4] (fun i wr => ∃ k : Nat, k ≤ len ∧ i = .int .i64 k ∧ Below w.heap.size w wr ∧ Rnd w.heap.size wr len k S Q) (fun i _ => len - (intOf i).toNat)
  case atStart => exact ⟨0, Nat.zero_le _, rfl, (Below.refl _ _).alloc (Nat.le_refl _) _, fun _ => 0, World.rowIs_made _ _ _ _, fun j hj => absurd hj (Nat.not_lt_zero _)⟩
  case round =>
    obtain ⟨k, hk, rfl, hbel, hrnd⟩ := hrel
    by_cases hlt : k < len
    · obtain ⟨B, hrow, _⟩ := id hrnd
      have hM' := hM.below hbel hb
      have hs := hbel.size
      have hbr : b < wr.heap.size := by omega
      have hgr : w.heap.size < wr.heap.size := hrow.lt
      have hne : b ≠ w.heap.size := by omega
      have hPk : Pay wr (PA k) (PL k) := (hPay k hlt).below hbel
      have hPl := hPL k hlt
      have h0 := hM'.c0 k hlt
      have h1 := hM'.c1 k hlt
      have h2 := hM'.c2 k hlt
      have h3 := hM'.c3 k hlt
      have h4 := hM'.c4 k hlt
      have hg0 : wr.cell? ⟨w.heap.size, k, none⟩ = some (.pointer none) := by simpa using hrow.cell hlt
      have hg1 := hrow.frozen k
      clear hM hM' hPay hPL hrow
      have hi0 : (0 : Int) ≤ (k : Int) := by omega
      have hi1 : (k : Int) < (len : Int) := by omega
      go_wp2
      go_region_held3 (fun w' => w'.cell? ⟨b, off + k * 5, none⟩ = some (.int .u64 (V k)) ∧ w'.cell? ⟨b, off + k * 5 + 1, none⟩ = some (.int .u32 (S k)) ∧ w'.cell? ⟨b, off + k * 5 + 2, none⟩ = some (.int .u64 (Q k)) ∧ w'.cell? ⟨b, off + k * 5 + 3, none⟩ = some (.int .u64 (T k)) ∧ w'.cell? ⟨b, off + k * 5 + 4, none⟩ = some (.slice (PA k) (PL k) (PC k)))
        (first | go_keep | (refine ⟨?_, ?_, ?_, ?_, ?_⟩ <;> (rw [farcell hb2 hbr hne]; assumption))) (first | (go_at_call 27; refine (bytes27 _ _ _ _ ?_ ?_).mono ?_; (exact hPk); (exact hPl); rintro e w1 ⟨a', l', c', rfl, hb1⟩; have hb2 := bdrew hb1; clear hb1; obtain ⟨hcl1, hfr1⟩ := bcell hb2; have hz1 := hb2.size; have hz2 : b ≠ w1.heap.size := (by omega); have hst := acell hb2 hgr hg0; have hsf := afrozen hb2 hgr hg1))
      have R := hrnd.step hbel hb2 hlt (V k) (T k) a' l' c'
      clear hcl1 hfr1 hst hsf h0 h1 h2 h3 h4 hg0 hg1
      go_wp2
      go_roundw
      case rel => exact ⟨k + 1, by omega, by go_num, R.1, R.2⟩
      case measure => simp [intOf]; omega
    · obtain rfl : k = len := by omega
      go_wp2
      go_ret
      exact hrnd.done hbel rfl

set_option maxHeartbeats 400000 in
theorem data17_nil (cap : Nat) (S Q : Nat → Int) (w : World) : Calls Try.prog 17 #[.slice none 0 cap] w (Made w 0 S Q) := by
  have hnil := fun wx => Lib.run_eql_slice_nil (P := Try.prog) wx 27 58 none 0 cap 0 0 Try.underlying27
  go_enter Try.func17, Try.ntmps17
  go_wp2
  go_ret
  exact ⟨none, fun _ => 0, rfl, .inl rfl, Below.refl _ _⟩

set_option maxHeartbeats 400000 in
theorem data17_zero (a : Addr) (cap : Nat) (S Q : Nat → Int) (w : World) : Calls Try.prog 17 #[.slice (some a) 0 cap] w (Made w 0 S Q) := by
  have hnil := fun wx => Lib.run_eql_slice_nil (P := Try.prog) wx 27 58 (some a) 0 cap 0 0 Try.underlying27
  have hmk : ∀ wx : World, (Instr.makeSlice 39 (.int .i64 0) (.int .i64 0)).run Try.prog wx = .ok (.slice (some ⟨wx.heap.size, 0, none⟩) 0 0) (wx.alloc (.cells (madeCells #[.pointer none] 0) 43)) := fun wx => run_make_row' (P := Try.prog) 39 43 (.pointer none) 8 Try.underlying39 Try.info43 rfl .i64 .i64 0 (by omega) (by omega) wx
  go_enter Try.func17, Try.ntmps17
  go_wp2
  go_loop [4] (fun i => i = .int .i64 0) (fun i => 0 - (intOf i).toNat)
  case atStart => exact rfl
  case round =>
    obtain rfl := hrel
    go_wp2
    go_ret
    exact ⟨_, fun _ => 0, rfl, .inl rfl, (Below.refl _ _).alloc (Nat.le_refl _) _⟩

theorem data17 (a : Option Addr) (len cap : Nat) (V S Q T : Nat → Int) (PA : Nat → Option Addr) (PL PC : Nat → Nat) (w : World)
    (hM : Msgs w a len V S Q T PA PL PC) (hlen : len ≤ 1048576) (hPL : ∀ i, i < len → PL i ≤ 1048576) (hPay : ∀ i, i < len → Pay w (PA i) (PL i)) :
    Calls Try.prog 17 #[.slice a len cap] w (Made w len S Q) := by
  rcases hM with rfl | ⟨b, off, rfl, hb, hM⟩
  · cases a with
    | none => exact data17_nil cap S Q w
    | some a => exact data17_zero a cap S Q w
  · exact data17_at b off len cap V S Q T PA PL PC w hb hM hlen hPL hPay

end Go.Proofs.Qxb6604164a
