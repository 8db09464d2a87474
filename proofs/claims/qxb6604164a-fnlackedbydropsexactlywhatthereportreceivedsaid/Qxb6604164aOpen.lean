/-
  THE ARGUMENT 'kept []LawData', OPENED: what its reading says of memory.
-/
import Derived.Test.Qxb6604164aBase
import Derived.ProofKit
import Derived.OpenShut
import Derived.Deep.Slices
import Derived.ChangeOld
namespace Go.Proofs.Qxb6604164a
open Go.ChangeShapes Go.WideShapes Go.ChangeAt Go.RowKit Go.Deep

theorem Try.cells22 : Try.prog.cellsOf 22 = 1 := by kernel_rfl
theorem Try.cells46 : Try.prog.cellsOf 46 = 1 := by kernel_rfl
theorem Try.cells47 : Try.prog.cellsOf 47 = 1 := by kernel_rfl
theorem Try.cells5 : Try.prog.cellsOf 5 = 1 := by kernel_rfl
theorem Try.cells58 : Try.prog.cellsOf 58 = 5 := by kernel_rfl

theorem cell_lt {w : World} {a : Addr} {v : Value} (h : w.cell? a = some v) : a.block < w.heap.size := by
  unfold World.cell? at h
  cases hb : w.heap[a.block]? with
  | none => rw [hb] at h; simp at h
  | some o => exact (Array.getElem?_eq_some_iff.1 hb).1

theorem add_spot {a : Addr} (h : a.spot = none) (i : Nat) : a.add i = ⟨a.block, a.off + i, none⟩ := by
  obtain ⟨b, o, s⟩ := a
  simp at h
  subst h
  unfold Addr.add
  by_cases hi : i = 0 <;> simp [hi]

section
variable {H : Type} {enc : TypeId × Value → H} {w : World} {spare : Nat → Bool} {held : Bool}

theorem open_pay {fuel : Nat} {cs : List Value} {x : DataW H × List MemPlace} (h : DataW.trod enc Try.prog w 0 spare held fuel 47 cs = some x) :
    ∃ pa pl pc, cs = [.slice pa pl pc] ∧ pl ≤ maxLen ∧ Pay w pa pl := by
  rcases open_ints Try.underlying47 Try.underlying5 Try.cells5 h with ⟨hcs, _⟩ | ⟨a, len, cap, zs, hcs, _, hl, hm, hz, _, hcell, _⟩
  · exact ⟨none, 0, 0, hcs, Nat.zero_le _, .inl rfl⟩
  · refine ⟨some a, len, cap, hcs, Nat.le_trans hl hm, ?_⟩
    by_cases h0 : len = 0
    · exact .inl h0
    have hzl : len ≤ zs.length := by rw [hz]; split <;> omega
    have hc0 := hcell 0 (by omega)
    have hs : a.spot = none := by simpa [Addr.add] using World.cell?_spot hc0
    have hlt : a.block < w.heap.size := by
      have := cell_lt hc0
      rwa [add_spot hs] at this
    refine .inr ⟨a.block, a.off, ?_, hlt, fun i => zs.getD i 0, fun i hi => ?_⟩
    · obtain ⟨b, o, s⟩ := a
      simp at hs
      subst hs
      rfl
    · rw [← add_spot hs]
      exact hcell i (by omega)

theorem five {α : Type} {l : List α} (h : l.length = 5) : ∃ a b c d e, l = [a, b, c, d, e] := by
  match l, h with
  | [a, b, c, d, e], _ => exact ⟨a, b, c, d, e, rfl⟩

theorem open_elem {fuel : Nat} {cs : List Value} {x : DataW H × List MemPlace} (h : DataW.trod enc Try.prog w 0 spare held fuel 58 cs = some x) :
    ∃ (y : (Int × Int × Int × Int) × Option Addr × Nat × Nat), cs = [.int .u64 y.1.1, .int .u32 y.1.2.1, .int .u64 y.1.2.2.1, .int .u64 y.1.2.2.2, .slice y.2.1 y.2.2.1 y.2.2.2] ∧ (0 ≤ y.1.2.2.1 ∧ y.1.2.2.1 ≤ 18446744073709551615) ∧ y.2.2.1 ≤ maxLen ∧ Pay w y.2.1 y.2.2.1 := by
  obtain ⟨xs, n, _, _, hl, hlen, hf⟩ := DataW.trod_struct Try.underlying58 h
  rw [Try.cells58] at hl
  obtain ⟨c0, c1, c2, c3, c4, rfl⟩ := five hl
  obtain ⟨x0, x1, x2, x3, x4, rfl⟩ := five (l := xs) (by simpa using hlen)
  have f0 := hf 0 _ rfl
  have f1 := hf 1 _ rfl
  have f2 := hf 2 _ rfl
  have f3 := hf 3 _ rfl
  have f4 := hf 4 _ rfl
  simp [Try.cells22] at f0
  simp [Try.cells46] at f1
  simp [Try.cells22] at f2
  simp [Try.cells22] at f3
  simp [Try.cells47] at f4
  obtain ⟨v, e0, _, _⟩ := DataW.trod_int Try.underlying22 f0
  obtain ⟨s, e1, _, _⟩ := DataW.trod_int Try.underlying46 f1
  obtain ⟨q, e2, _, wq⟩ := DataW.trod_int Try.underlying22 f2
  obtain ⟨t, e3, _, _⟩ := DataW.trod_int Try.underlying22 f3
  obtain ⟨pa, pl, pc, e4, hpl, hpay⟩ := open_pay f4
  simp at e0 e1 e2 e3 e4
  subst e0 e1 e2 e3 e4
  exact ⟨((v, s, q, t), pa, pl, pc), rfl, bounds_u64 wq, hpl, hpay⟩

theorem open_msgs {fuel : Nat} {a : Option Addr} {len cap : Nat} {x : DataW H × List MemPlace} (h : DataW.trod enc Try.prog w 0 spare held fuel 27 [.slice a len cap] = some x) :
    ∃ V S Q T PA PL PC, Msgs w a len V S Q T PA PL PC ∧ len ≤ maxLen ∧ (∀ i, i < len → PL i ≤ maxLen) ∧ (∀ i, i < len → Pay w (PA i) (PL i)) ∧ (∀ i, i < len → 0 ≤ Q i ∧ Q i ≤ 18446744073709551615) := by
  rcases open_slice Try.underlying27 h with ⟨hcs, _⟩ | ⟨a', len', cap', m, n, D, Pl, hcs, _, hl, hm, hmm, _, hx⟩
  · simp at hcs
    obtain ⟨rfl, rfl, rfl⟩ := hcs
    exact ⟨fun _ => 0, fun _ => 0, fun _ => 0, fun _ => 0, fun _ => none, fun _ => 0, fun _ => 0, .inl rfl, Nat.zero_le _, fun i hi => absurd hi (Nat.not_lt_zero _), fun i hi => absurd hi (Nat.not_lt_zero _), fun i hi => absurd hi (Nat.not_lt_zero _)⟩
  · simp at hcs
    obtain ⟨rfl, rfl, rfl⟩ := hcs
    have hml : len ≤ m := by rw [hmm]; split <;> omega
    rw [Try.cells58] at hx
    obtain ⟨Y, hY⟩ := choose_lt (n := len) (α := (Int × Int × Int × Int) × Option Addr × Nat × Nat) (p := fun i y => (w.cells? 0 (a'.add (i * 5)) 5 = some [.int .u64 y.1.1, .int .u32 y.1.2.1, .int .u64 y.1.2.2.1, .int .u64 y.1.2.2.2, .slice y.2.1 y.2.2.1 y.2.2.2]) ∧ (0 ≤ y.1.2.2.1 ∧ y.1.2.2.1 ≤ 18446744073709551615) ∧ y.2.2.1 ≤ maxLen ∧ Pay w y.2.1 y.2.2.1) (fun i hi => by
      obtain ⟨cs', h1, h2⟩ := hx i (by omega)
      obtain ⟨y, rfl, hy⟩ := open_elem h2
      exact ⟨y, h1, hy⟩)
    refine ⟨fun i => (Y i).1.1, fun i => (Y i).1.2.1, fun i => (Y i).1.2.2.1, fun i => (Y i).1.2.2.2, fun i => (Y i).2.1, fun i => (Y i).2.2.1, fun i => (Y i).2.2.2, ?_, Nat.le_trans hl hm, fun i hi => (hY i hi).2.2.1, fun i hi => (hY i hi).2.2.2, fun i hi => (hY i hi).2.1⟩
    by_cases h0 : len = 0
    · exact .inl h0
    have each : ∀ i, i < len → ∀ j, j < 5 → w.cell? ((a'.add (i * 5)).add j) = [Value.int .u64 (Y i).1.1, .int .u32 (Y i).1.2.1, .int .u64 (Y i).1.2.2.1, .int .u64 (Y i).1.2.2.2, .slice (Y i).2.1 (Y i).2.2.1 (Y i).2.2.2][j]? := fun i hi => (World.cells?_some (hY i hi).1).2.2
    have hc0 := each 0 (by omega) 0 (by omega)
    simp [Addr.add] at hc0
    have hs : a'.spot = none := World.cell?_spot hc0
    have hlt : a'.block < w.heap.size := cell_lt hc0
    have addr : ∀ i j, (a'.add (i * 5)).add j = ⟨a'.block, a'.off + i * 5 + j, none⟩ := fun i j => by
      rw [Go.Deep.add_add, add_spot hs, Nat.add_assoc]
    refine .inr ⟨a'.block, a'.off, ?_, hlt, ⟨fun i hi => ?_, fun i hi => ?_, fun i hi => ?_, fun i hi => ?_, fun i hi => ?_⟩⟩
    · obtain ⟨b, o, s⟩ := a'
      simp at hs
      subst hs
      rfl
    · simpa [addr] using each i hi 0 (by omega)
    · simpa [addr] using each i hi 1 (by omega)
    · simpa [addr] using each i hi 2 (by omega)
    · simpa [addr] using each i hi 3 (by omega)
    · simpa [addr] using each i hi 4 (by omega)

end
end Go.Proofs.Qxb6604164a
