/-
  THE WALK OF zzCloneIDs (7).
-/
import Derived.Test.Qxb6604502aDoorSmall
namespace Go.Proofs.Qxb6604502aDoor
open Go.RowKit
set_option linter.unusedVariables false

theorem Tryd.info28 : (Tryd.prog.info? 28).map (fun i => (i.zero, i.size, i.bytes)) = some (some (.slice none 0 0), 1, 24) := by kernel_rfl
theorem Tryd.info3 : (Tryd.prog.info? 3).map (fun i => (i.zero, i.size, i.bytes)) = some (some (.int .i64 0), 1, 8) := by kernel_rfl

/-- One identifier's copy: nil and empty, or a row of the call's own from block B on. -/
def Copy (B : Nat) (w : World) (a : Option Addr) (l c : Nat) (Z : Nat → Int) : Prop :=
  (a = none ∧ l = 0 ∧ c = 0) ∨ ∃ b, a = some ⟨b, 0, none⟩ ∧ c = l ∧ B < b ∧ w.rowIs b 3 l (fun t => .int .i64 (Z t))

theorem Copy.ints {B : Nat} {w : World} {a : Option Addr} {l c : Nat} {Z : Nat → Int} (h : Copy B w a l c Z) : Ints w a l Z := by
  rcases h with ⟨_, h, _⟩ | ⟨b, ha, _, _, hr⟩
  · exact .inl h
  · exact .inr ⟨b, 0, ha, hr.lt, fun i hi => by rw [Nat.zero_add, hr.cell hi]⟩

theorem Copy.block {B : Nat} {w w' : World} {a : Option Addr} {l c : Nat} {Z : Nat → Int} (h : Copy B w a l c Z) (hb : ∀ b, B < b → b < w.heap.size → w'.heap[b]? = w.heap[b]?) : Copy B w' a l c Z := by
  rcases h with h | ⟨b, ha, hc, hB, hr⟩
  · exact .inl h
  · exact .inr ⟨b, ha, hc, hB, hr.of_block (hb b hB hr.lt)⟩

/-- Behind k rounds: the outer row in block g; k copies. -/
def CRow (w : World) (g n k : Nat) (IL : Nat → Nat) (Z : Nat → Nat → Int) : Prop :=
  ∃ (A : Nat → Option Addr) (K : Nat → Nat), w.rowIs g 28 n (fun j => if j < k then .slice (A j) (IL j) (K j) else .slice none 0 0) ∧ ∀ j, j < k → Copy g w (A j) (IL j) (K j) (Z j)

theorem CRow.skip {w : World} {g n k : Nat} {IL : Nat → Nat} {Z : Nat → Nat → Int} (h : CRow w g n k IL Z) (h0 : IL k = 0) : CRow w g n (k + 1) IL Z := by
  obtain ⟨A, K, hr, hc⟩ := h
  refine ⟨fun j => if j = k then none else A j, fun j => if j = k then 0 else K j, hr.congr fun j hj => ?_, fun j hj => ?_⟩
  · by_cases e : j = k
    · subst e; simp [h0]
    · simp only [if_neg e]
      by_cases e2 : j < k
      · rw [if_pos e2, if_pos (by omega)]
      · rw [if_neg e2, if_neg (by omega)]
  · by_cases e : j = k
    · subst e
      simp only [if_true]
      exact .inl ⟨rfl, h0, rfl⟩
    · simp only [if_neg e]
      exact hc j (by omega)

theorem CRow.take {w0 w : World} {g n k : Nat} {IL : Nat → Nat} {Z : Nat → Nat → Int} (h : CRow w0 g n k IL Z) (hb : Below w0.heap.size w0 w) (hr : w.rowIs w0.heap.size 3 (IL k) (fun t => .int .i64 (Z k t))) :
    CRow (w.setCell ⟨g, k, none⟩ (.slice (some ⟨w0.heap.size, 0, none⟩) (IL k) (IL k))) g n (k + 1) IL Z := by
  obtain ⟨A, K, hR, hc⟩ := h
  have hg : g < w0.heap.size := hR.lt
  refine ⟨fun j => if j = k then some ⟨w0.heap.size, 0, none⟩ else A j, fun j => if j = k then IL k else K j, ((hR.of_block (hb.block _ hg)).set k _).congr fun j hj => ?_, fun j hj => ?_⟩
  · by_cases e : j = k
    · subst e; simp
    · simp only [if_neg e]
      by_cases e2 : j < k
      · rw [if_pos e2, if_pos (by omega)]
      · rw [if_neg e2, if_neg (by omega)]
  · by_cases e : j = k
    · subst e
      simp only [if_true]
      exact .inr ⟨_, rfl, rfl, hg, hr.setOther (by show w0.heap.size ≠ g; omega) _⟩
    · simp only [if_neg e]
      exact (hc j (by omega)).block fun b h1 h2 => (Go.Deep.blk_setCell_other _ _ _ _ (by show b ≠ g; omega)).trans (hb.block b h2)

/-- A copy of the identifiers, in new memory. -/
def ClonedI (w : World) (n : Nat) (IL : Nat → Nat) (Z : Nat → Nat → Int) (e : Ending) (w' : World) : Prop :=
  ∃ a A K, e = .returned (.slice a n n) ∧ Ids w' a n A IL K Z ∧ Below w.heap.size w w'

theorem CRow.done {w0 w : World} {n : Nat} {IL : Nat → Nat} {Z : Nat → Nat → Int} {e : Ending} (h : CRow w w0.heap.size n n IL Z) (hb : Below w0.heap.size w0 w) (he : e = .returned (.slice (some ⟨w0.heap.size, 0, none⟩) n n)) : ClonedI w0 n IL Z e w := by
  obtain ⟨A, K, hr, hc⟩ := h
  exact ⟨_, A, K, he, ⟨.inr ⟨_, 0, rfl, hr.lt, fun i hi => by rw [Nat.zero_add, hr.cell hi, if_pos hi]⟩, fun i hi => (hc i hi).ints⟩, hb⟩

set_option maxHeartbeats 2000000 in
theorem clone7 (a : Option Addr) (n c : Nat) (IA : Nat → Option Addr) (IL IC : Nat → Nat) (Z : Nat → Nat → Int) (w : World) (hn : n ≤ 65536) (hI : Ids w a n IA IL IC Z) (hL : ∀ i, i < n → IL i ≤ 1048576) (h0 : a = none → n = 0) (hN : ∀ i, i < n → IA i = none → IL i = 0) :
    Calls Tryd.prog 7 #[.slice a n c] w (ClonedI w n IL Z) := by
  have hnil := fun wx => Lib.run_eql_slice_nil (P := Tryd.prog) wx 22 28 a n c 0 0 Tryd.underlying22
  cases a with
  | none =>
    obtain rfl := h0 rfl
    go_enter Tryd.func7, Tryd.ntmps7
    go_wp2
    go_ret
    exact ⟨none, fun _ => none, fun _ => 0, rfl, ⟨.inl rfl, fun i hi => absurd hi (Nat.not_lt_zero _)⟩, Below.refl _ _⟩
  | some ad =>
    clear h0
    have hmk := fun wx => run_make_row' (P := Tryd.prog) 22 28 (.slice none 0 0) 24 Tryd.underlying22 Tryd.info28 rfl .i64 .i64 n (by omega) (by omega) wx
    have HI : Hid (Ids w (some ad) n IA IL IC Z) := hI
    have HN : Hid (∀ i, i < n → IA i = none → IL i = 0) := hN
    clear hI hN
    go_enter Tryd.func7, Tryd.ntmps7
    go_wp2
    go_loopw [4] (fun i wr => ∃ k : Nat, k ≤ n ∧ i = .int .i64 k ∧ Below w.heap.size w wr ∧ CRow wr w.heap.size n k IL Z) (fun i _ => n - (intOf i).toNat)
    case atStart => exact ⟨0, Nat.zero_le _, rfl, (Below.refl _ _).alloc (Nat.le_refl _) _, fun _ => none, fun _ => 0, World.rowIs_made _ _ _ _, fun j hj => absurd hj (Nat.not_lt_zero _)⟩
    case round =>
      obtain ⟨k, hk, rfl, hbel, hrow⟩ := hrel
      by_cases hlt : k < n
      · rcases HI.out.out with h | ⟨b, off, ha, hb, hc⟩
        · omega
        cases ha
        have h1 : wr.cell? ⟨b, off + k, none⟩ = some (.slice (IA k) (IL k) (IC k)) := (hbel.cell (by exact hb)).trans (hc k hlt)
        have hl := hL k hlt
        have hi : (k : Int) < (n : Int) := by omega
        have hneq := fun wx => run_neq_slice_nil_any (P := Tryd.prog) wx 28 3 (IA k) (IL k) (IC k) 0 0 Tryd.underlying28
        clear hc
        cases hia : IA k with
        | none =>
          rw [hia] at h1 hneq
          have H0 : Hid (IL k = 0) := HN.out k hlt hia
          have HA : Hid (IA k = none) := hia
          clear hia
          go_wp2
          go_roundw
          case rel => exact ⟨k + 1, by omega, by go_num, hbel, hrow.skip H0.out⟩
          case measure => simp [intOf]; omega
        | some x =>
          rw [hia] at h1 hneq
          have HA : Hid (IA k = some x) := hia
          clear hia
          have hmk2 := fun wx => run_make_row' (P := Tryd.prog) 28 3 (.int .i64 0) 8 Tryd.underlying28 Tryd.info3 rfl .i64 .i64 (IL k) (by omega) (by omega) wx
          have hbw : b < wr.heap.size := Nat.lt_of_lt_of_le hb hbel.size
          have hne : b ≠ wr.heap.size := by omega
          have HR : Hid (Ints wr (some x) (IL k) (Z k)) := by
            have := (HI.out.rows k hlt).below hbel
            rw [HA.out] at this
            exact this
          rename World => W0
          go_wp2
          go_loopw [6] (fun i wr => ∃ t : Nat, t ≤ IL k ∧ i = .int .i64 t ∧ Below W0.heap.size W0 wr ∧ wr.rowIs W0.heap.size 3 (IL k) (fun s => .int .i64 (if s < t then Z k s else 0))) (fun i _ => IL k - (intOf i).toNat)
          case atStart => exact ⟨0, Nat.zero_le _, rfl, (Below.refl _ _).alloc (Nat.le_refl _) _, World.rowIs_made _ _ _ _⟩
          case round =>
            obtain ⟨t, ht, rfl, hbel2, hrow2⟩ := hrel
            have h1' : wr.cell? ⟨b, off + k, none⟩ = some (.slice (some x) (IL k) (IC k)) := (hbel2.cell (by exact hbw)).trans h1
            by_cases hlt2 : t < IL k
            · rcases HR.out with h | ⟨xb, xo, hx, hxb, hxc⟩
              · omega
              cases hx
              have h5 : wr.cell? ⟨xb, xo + t, none⟩ = some (.int .i64 (Z k t)) := (hbel2.cell (by exact hxb)).trans (hxc t hlt2)
              have h6 := hrow2.cell hlt2
              have h7 := hrow2.frozen t
              have hi2 : (t : Int) < (IL k : Int) := by omega
              clear hxc
              go_wp2
              go_roundw
              case rel =>
                refine ⟨t + 1, by omega, by go_num, hbel2.setCell (Nat.le_refl _) _, (hrow2.set t _).congr fun j hj => ?_⟩
                by_cases e : j = t
                · subst e; simp
                · rw [if_neg e]
                  by_cases e2 : j < t
                  · rw [if_pos e2, if_pos (by omega)]
                  · rw [if_neg e2, if_neg (by omega)]
              case measure => simp [intOf]; omega
            · have htl : t = IL k := by omega
              have hrow3 : wr.rowIs W0.heap.size 3 (IL k) (fun s => .int .i64 (Z k s)) := hrow2.congr fun j hj => by rw [if_pos (by omega)]
              have hT := hrow.take hbel2 hrow3
              have HT : Hid (CRow (wr.setCell ⟨w.heap.size, k, none⟩ (.slice (some ⟨W0.heap.size, 0, none⟩) (IL k) (IL k))) w.heap.size n (k + 1) IL Z) := hT
              have HBE : Hid (Below w.heap.size w (wr.setCell ⟨w.heap.size, k, none⟩ (.slice (some ⟨W0.heap.size, 0, none⟩) (IL k) (IL k)))) := (hbel.trans (hbel2.mono hbel.size)).setCell (Nat.le_refl _) _
              obtain ⟨A', K', hr', _⟩ := hrow
              have hst : wr.cell? ⟨w.heap.size, k, none⟩ = some (.slice none 0 0) := (hbel2.cell (by exact hr'.lt)).trans (by simpa using hr'.cell hlt)
              have hsf : wr.frozen? ⟨w.heap.size, k, none⟩ = false := (hbel2.frozen (by exact hr'.lt)).trans (hr'.frozen k)
              clear hT hrow3 hrow2 hr' htl
              go_wp2
              go_roundw
              case rel => exact ⟨k + 1, by omega, by go_num, HBE.out, HT.out⟩
              case measure => simp [intOf]; omega
      · have hkn : n = k := by omega
        subst hkn
        go_wp2
        go_ret
        exact hrow.done hbel rfl

end Go.Proofs.Qxb6604502aDoor
