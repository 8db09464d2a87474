/-
  WHAT FnCheckCRLNumberFirstDecides (4) FILLS: four rows of its own.
-/
import Derived.Test.Qxb6604502aDoorClone
import Derived.Lib.LazyBuf
import Derived.Maps.AppendAt
namespace Go.Proofs.Qxb6604502aDoor
open Go.RowKit Go.Maps
set_option linter.unusedVariables false

/-- The indices below j that are kept. -/
def kp (f : Nat → Bool) (j : Nat) : List Nat := (List.range j).filter fun i => !f i

theorem kp_succ (f : Nat → Bool) (j : Nat) : kp f (j + 1) = kp f j ++ (if f j then [] else [j]) := by
  unfold kp
  rw [List.range_succ, List.filter_append]
  cases h : f j <;> simp [h]

theorem kp_le (f : Nat → Bool) (j : Nat) : (kp f j).length ≤ j := by
  have := List.length_filter_le (fun i => !f i) (List.range j)
  simpa [kp] using this

theorem kp_mem {f : Nat → Bool} {n t : Nat} (ht : t < (kp f n).length) : (kp f n).getD t 0 < n ∧ f ((kp f n).getD t 0) = false := by
  have hm : (kp f n).getD t 0 ∈ kp f n := by
    rw [List.getD_eq_getElem?_getD, List.getElem?_eq_getElem ht]
    simp
  have := List.mem_filter.1 hm
  simpa using this

/-- One ahead of the rest. -/
def ahead {α : Type} (x : α) (f : Nat → α) : Nat → α
  | 0 => x
  | i + 1 => f i

def idsL (A : Nat → Option Addr) (IL K : Nat → Nat) (l : List Nat) : List Value := l.map fun i => .slice (A i) (IL i) (K i)
def boolsL (C : Nat → Bool) (l : List Nat) : List Value := l.map fun i => .bool (C i)

/-- The four rows that are being filled, and the identifier's own block. -/
structure St (w0 wr : World) (g1 g2 g3 g4 go n k1 k2 k3 k4 : Nat) (L1 L2 L3 L4 : List Value) : Prop where
  below : Below w0.heap.size w0 wr
  r1 : wr.ownsRow w0.heap.size 28 1 (.slice (some ⟨g1, 0, none⟩) k1 (n + 1)) k1 L1
  r2 : wr.ownsRow w0.heap.size 4 1 (.slice (some ⟨g2, 0, none⟩) k2 (n + 1)) k2 L2
  r3 : wr.ownsRow w0.heap.size 28 1 (.slice (some ⟨g3, 0, none⟩) k3 n) k3 L3
  r4 : wr.ownsRow w0.heap.size 4 1 (.slice (some ⟨g4, 0, none⟩) k4 n) k4 L4
  oid : Ints wr (some ⟨go, 0, none⟩) 4 oidZ
  b1 : w0.heap.size ≤ g1
  b2 : w0.heap.size ≤ g2
  b3 : w0.heap.size ≤ g3
  b4 : w0.heap.size ≤ g4
  d1 : g1 ≠ g2 ∧ g1 ≠ g3 ∧ g1 ≠ g4 ∧ g1 ≠ go
  d2 : g2 ≠ g3 ∧ g2 ≠ g4 ∧ g2 ≠ go
  d3 : g3 ≠ g4 ∧ g3 ≠ go
  d4 : g4 ≠ go

theorem Ints.grown {w w' : World} {go l : Nat} {Z : Nat → Int} {row : Option Nat} (h : Ints w (some ⟨go, 0, none⟩) l Z) (hg : w.grownBy w' row) (hne : some go ≠ row) : Ints w' (some ⟨go, 0, none⟩) l Z := by
  rcases h with h | ⟨b, off, ha, hb, hc⟩
  · exact .inl h
  · cases ha
    exact .inr ⟨go, 0, rfl, Nat.lt_of_lt_of_le hb hg.size, fun i hi => hg.cell (hc i hi) (by exact hne)⟩

theorem kept' {w w' : World} {base e g k cap h : Nat} {xs : List Value} (hr : w.ownsRow base e 1 (.slice (some ⟨g, 0, none⟩) k cap) k xs) (hg : w.grownBy w' (some h)) (hne : g ≠ h) : w'.ownsRow base e 1 (.slice (some ⟨g, 0, none⟩) k cap) k xs :=
  hr.kept hg (.inr (by intro he; exact hne (Option.some.inj he)))

theorem St.lt {w0 wr : World} {g1 g2 g3 g4 go n k1 k2 k3 k4 : Nat} {L1 L2 L3 L4 : List Value} (h : St w0 wr g1 g2 g3 g4 go n k1 k2 k3 k4 L1 L2 L3 L4) : w0.heap.size ≤ wr.heap.size := h.below.size

theorem St.put1 {w0 wr w' : World} {o : Obj} {g1 g2 g3 g4 go n k1 k2 k3 k4 k : Nat} {L1 L2 L3 L4 L : List Value} (h : St w0 wr g1 g2 g3 g4 go n k1 k2 k3 k4 L1 L2 L3 L4) (hg : (wr.alloc o).grownBy w' (some g1)) (hr : w'.ownsRow w0.heap.size 28 1 (.slice (some ⟨g1, 0, none⟩) k (n + 1)) k L) :
    St w0 w' g1 g2 g3 g4 go n k k2 k3 k4 L L2 L3 L4 :=
  ⟨(h.below.alloc h.below.size _).grown hg (by have := h.below.size; simp; omega) (fun t ht => by cases ht; exact h.b1), hr, kept' (h.r2.alloc _) hg (fun e => h.d1.1 e.symm), kept' (h.r3.alloc _) hg (fun e => h.d1.2.1 e.symm), kept' (h.r4.alloc _) hg (fun e => h.d1.2.2.1 e.symm),
    (h.oid.below ((Below.refl _ _).alloc (Nat.le_refl _) _)).grown hg (fun e => h.d1.2.2.2 (Option.some.inj e).symm), h.b1, h.b2, h.b3, h.b4, h.d1, h.d2, h.d3, h.d4⟩

theorem St.put2 {w0 wr w' : World} {o : Obj} {g1 g2 g3 g4 go n k1 k2 k3 k4 k : Nat} {L1 L2 L3 L4 L : List Value} (h : St w0 wr g1 g2 g3 g4 go n k1 k2 k3 k4 L1 L2 L3 L4) (hg : (wr.alloc o).grownBy w' (some g2)) (hr : w'.ownsRow w0.heap.size 4 1 (.slice (some ⟨g2, 0, none⟩) k (n + 1)) k L) :
    St w0 w' g1 g2 g3 g4 go n k1 k k3 k4 L1 L L3 L4 :=
  ⟨(h.below.alloc h.below.size _).grown hg (by have := h.below.size; simp; omega) (fun t ht => by cases ht; exact h.b2), kept' (h.r1.alloc _) hg (fun e => h.d1.1 e), hr, kept' (h.r3.alloc _) hg (fun e => h.d2.1 e.symm), kept' (h.r4.alloc _) hg (fun e => h.d2.2.1 e.symm),
    (h.oid.below ((Below.refl _ _).alloc (Nat.le_refl _) _)).grown hg (fun e => h.d2.2.2 (Option.some.inj e).symm), h.b1, h.b2, h.b3, h.b4, h.d1, h.d2, h.d3, h.d4⟩

theorem St.put3 {w0 wr w' : World} {o : Obj} {g1 g2 g3 g4 go n k1 k2 k3 k4 k : Nat} {L1 L2 L3 L4 L : List Value} (h : St w0 wr g1 g2 g3 g4 go n k1 k2 k3 k4 L1 L2 L3 L4) (hg : (wr.alloc o).grownBy w' (some g3)) (hr : w'.ownsRow w0.heap.size 28 1 (.slice (some ⟨g3, 0, none⟩) k n) k L) :
    St w0 w' g1 g2 g3 g4 go n k1 k2 k k4 L1 L2 L L4 :=
  ⟨(h.below.alloc h.below.size _).grown hg (by have := h.below.size; simp; omega) (fun t ht => by cases ht; exact h.b3), kept' (h.r1.alloc _) hg (fun e => h.d1.2.1 e), kept' (h.r2.alloc _) hg (fun e => h.d2.1 e), hr, kept' (h.r4.alloc _) hg (fun e => h.d3.1 e.symm),
    (h.oid.below ((Below.refl _ _).alloc (Nat.le_refl _) _)).grown hg (fun e => h.d3.2 (Option.some.inj e).symm), h.b1, h.b2, h.b3, h.b4, h.d1, h.d2, h.d3, h.d4⟩

theorem St.put4 {w0 wr w' : World} {o : Obj} {g1 g2 g3 g4 go n k1 k2 k3 k4 k : Nat} {L1 L2 L3 L4 L : List Value} (h : St w0 wr g1 g2 g3 g4 go n k1 k2 k3 k4 L1 L2 L3 L4) (hg : (wr.alloc o).grownBy w' (some g4)) (hr : w'.ownsRow w0.heap.size 4 1 (.slice (some ⟨g4, 0, none⟩) k n) k L) :
    St w0 w' g1 g2 g3 g4 go n k1 k2 k3 k L1 L2 L3 L :=
  ⟨(h.below.alloc h.below.size _).grown hg (by have := h.below.size; simp; omega) (fun t ht => by cases ht; exact h.b4), kept' (h.r1.alloc _) hg (fun e => h.d1.2.2.1 e), kept' (h.r2.alloc _) hg (fun e => h.d2.2.1 e), kept' (h.r3.alloc _) hg (fun e => h.d3.1 e), hr,
    (h.oid.below ((Below.refl _ _).alloc (Nat.le_refl _) _)).grown hg (fun e => h.d4 (Option.some.inj e).symm), h.b1, h.b2, h.b3, h.b4, h.d1, h.d2, h.d3, h.d4⟩

theorem own_lt {w : World} {base e g k cap : Nat} {xs : List Value} (h : w.ownsRow base e 1 (.slice (some ⟨g, 0, none⟩) k cap) k xs) : g < w.heap.size := (h.lt g rfl).2

theorem own_cell {w : World} {base e g k cap : Nat} {xs : List Value} (h : w.ownsRow base e 1 (.slice (some ⟨g, 0, none⟩) k cap) k xs) {t : Nat} (ht : t < k) {x : Value} (hx : xs[t]? = some x) : w.cell? ⟨g, 0 + t, none⟩ = some x := by
  rw [Nat.zero_add, h.cellAt t (by omega), hx]

/-- The list with the one ahead. -/
theorem St.preIds {w0 wr : World} {g1 g2 g3 g4 go n k2 k3 k4 : Nat} {L2 L3 L4 : List Value} {a : Option Addr} {A : Nat → Option Addr} {IL K : Nat → Nat} {Z : Nat → Nat → Int} (h : St w0 wr g1 g2 g3 g4 go n (n + 1) k2 k3 k4 (.slice (some ⟨go, 0, none⟩) 4 4 :: idsL A IL K (List.range n)) L2 L3 L4) (hI : Ids w0 a n A IL K Z) :
    Ids wr (some ⟨g1, 0, none⟩) (n + 1) (ahead (some ⟨go, 0, none⟩) A) (ahead 4 IL) (ahead 4 K) (ahead oidZ Z) := by
  refine ⟨.inr ⟨g1, 0, rfl, own_lt h.r1, fun i hi => own_cell h.r1 hi ?_⟩, fun i hi => ?_⟩
  · cases i with
    | zero => rfl
    | succ i => simp [idsL, ahead, show i < n by omega]
  · cases i with
    | zero => exact h.oid
    | succ i => exact (hI.rows i (by omega)).below h.below

theorem St.preBools {w0 wr : World} {g1 g2 g3 g4 go n k1 k3 k4 : Nat} {L1 L3 L4 : List Value} {cr : Bool} {C : Nat → Bool} (h : St w0 wr g1 g2 g3 g4 go n k1 (n + 1) k3 k4 L1 (.bool cr :: boolsL C (List.range n)) L3 L4) :
    Bools wr (some ⟨g2, 0, none⟩) (n + 1) (ahead cr C) := by
  refine .inr ⟨g2, 0, rfl, own_lt h.r2, fun i hi => own_cell h.r2 hi ?_⟩
  cases i with
  | zero => rfl
  | succ i => simp [boolsL, ahead, show i < n by omega]

theorem getD_map {α : Type} {l : List Nat} {t : Nat} (ht : t < l.length) (f : Nat → α) : (l.map f)[t]? = some (f (l.getD t 0)) := by
  simp [List.getD_eq_getElem?_getD, ht]

theorem St.stripIds {w0 wr : World} {g1 g2 g3 g4 go n k1 k2 k4 : Nat} {L1 L2 L4 : List Value} {a : Option Addr} {A : Nat → Option Addr} {IL K : Nat → Nat} {Z : Nat → Nat → Int} {f : Nat → Bool} (h : St w0 wr g1 g2 g3 g4 go n k1 k2 (kp f n).length k4 L1 L2 (idsL A IL K (kp f n)) L4) (hI : Ids w0 a n A IL K Z) :
    Ids wr (some ⟨g3, 0, none⟩) (kp f n).length (fun t => A ((kp f n).getD t 0)) (fun t => IL ((kp f n).getD t 0)) (fun t => K ((kp f n).getD t 0)) (fun t => Z ((kp f n).getD t 0)) := by
  refine ⟨.inr ⟨g3, 0, rfl, own_lt h.r3, fun i hi => own_cell h.r3 hi ?_⟩, fun i hi => ?_⟩
  · exact getD_map hi (fun i => Value.slice (A i) (IL i) (K i))
  · exact (hI.rows _ (kp_mem hi).1).below h.below

theorem St.stripBools {w0 wr : World} {g1 g2 g3 g4 go n k1 k2 k3 : Nat} {L1 L2 L3 : List Value} {C : Nat → Bool} {f : Nat → Bool} (h : St w0 wr g1 g2 g3 g4 go n k1 k2 k3 (kp f n).length L1 L2 L3 (boolsL C (kp f n))) :
    Bools wr (some ⟨g4, 0, none⟩) (kp f n).length (fun t => C ((kp f n).getD t 0)) :=
  .inr ⟨g4, 0, rfl, own_lt h.r4, fun i hi => own_cell h.r4 hi (getD_map hi (fun i => Value.bool (C i)))⟩

theorem pre_acc {n : Nat} {IL : Nat → Nat} {C : Nat → Bool} {Z : Nat → Nat → Int} {cr : Bool} : Acc (n + 1) (ahead 4 IL) (ahead cr C) (ahead oidZ Z) ↔ cr = false := by
  have h0 : First (n + 1) (fun i => crlB (ahead 4 IL i) (ahead oidZ Z i)) 0 := ⟨by omega, crlB_yes (fun _ _ => rfl), fun i hi => absurd hi (Nat.not_lt_zero _)⟩
  constructor
  · rintro ⟨k, hk, hc⟩
    obtain rfl := first_one hk h0
    exact hc
  · intro h
    exact ⟨0, h0, h⟩

theorem strip_acc {n : Nat} {IL : Nat → Nat} {C : Nat → Bool} {Z : Nat → Nat → Int} : ¬ Acc (kp (fun i => crlB (IL i) (Z i)) n).length (fun t => IL ((kp (fun i => crlB (IL i) (Z i)) n).getD t 0)) (fun t => C ((kp (fun i => crlB (IL i) (Z i)) n).getD t 0)) (fun t => Z ((kp (fun i => crlB (IL i) (Z i)) n).getD t 0)) := by
  rintro ⟨k, ⟨hk, ht, _⟩, _⟩
  have h := (kp_mem hk).2
  simp only at h ht
  rw [h] at ht
  cases ht

theorem mk22 (n : Nat) (hn : n ≤ 65537) (w : World) : (Instr.makeSlice 22 (.int .i64 0) (.int .i64 (n : Int))).run Tryd.prog w = .ok (.slice (some ⟨w.heap.size, 0, none⟩) 0 n) (w.alloc (.cells (madeCells #[.slice none 0 0] n) 28)) := by
  obtain ⟨i0, hi, hz0, hz1, hz2⟩ := info_parts Tryd.info28
  have hr := run_make (P := Tryd.prog) w 22 28 i0 _ Tryd.underlying22 hi hz0 .i64 .i64 0 n (by omega) (by omega) (by rw [hz2]; omega) (by omega)
  simp only [show (0 : Int).toNat = 0 from rfl, Int.toNat_natCast, hz1, Nat.mul_one] at hr
  exact hr
theorem mk23 (n : Nat) (hn : n ≤ 65537) (w : World) : (Instr.makeSlice 23 (.int .i64 0) (.int .i64 (n : Int))).run Tryd.prog w = .ok (.slice (some ⟨w.heap.size, 0, none⟩) 0 n) (w.alloc (.cells (madeCells #[.bool false] n) 4)) := by
  obtain ⟨i0, hi, hz0, hz1, hz2⟩ := info_parts Tryd.info4
  have hr := run_make (P := Tryd.prog) w 23 4 i0 _ Tryd.underlying23 hi hz0 .i64 .i64 0 n (by omega) (by omega) (by rw [hz2]; omega) (by omega)
  simp only [show (0 : Int).toNat = 0 from rfl, Int.toNat_natCast, hz1, Nat.mul_one] at hr
  exact hr

end Go.Proofs.Qxb6604502aDoor
