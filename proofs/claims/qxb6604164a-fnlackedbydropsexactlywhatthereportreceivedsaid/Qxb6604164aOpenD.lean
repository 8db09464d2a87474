/-
  THE OTHER ARGUMENTS OF FnLackedBy.., OPENED.
-/
import Derived.Test.Qxb6604164aOpen
import Derived.Test.Qxb6604164aLawD
namespace Go.Proofs.Qxb6604164a
open Go.ChangeShapes Go.WideShapes Go.ChangeAt Go.RowKit Go.Deep
set_option linter.unusedVariables false

theorem Try.cells57 : Try.prog.cellsOf 57 = 3 := by kernel_rfl
theorem Try.cells77 : Try.prog.cellsOf 77 = 2 := by kernel_rfl
theorem Try.cells9 : Try.prog.cellsOf 9 = 1 := by kernel_rfl

theorem addr_form {a : Addr} (h : a.spot = none) : a = ⟨a.block, a.off, none⟩ := by
  obtain ⟨b, o, s⟩ := a
  simp at h
  subst h
  rfl

section
variable {H : Type} {enc : TypeId × Value → H} {w : World} {spare : Nat → Bool} {held : Bool}

theorem open_intsD {t e : TypeId} {k : IntKind} {fuel : Nat} {a : Option Addr} {len cap : Nat} {x : DataW H × List MemPlace} (ht : Try.prog.underlying t = some (.slice e)) (he : Try.prog.underlying e = some (.int k)) (hc : Try.prog.cellsOf e = 1)
    (h : DataW.trod enc Try.prog w 0 spare held fuel t [.slice a len cap] = some x) : ∃ Z, Ints k w a len Z ∧ len ≤ maxLen ∧ (a = none → len = 0) := by
  rcases open_ints ht he hc h with ⟨hcs, _⟩ | ⟨a', len', cap', zs, hcs, _, hl, hm, hz, _, hcell, hwf⟩
  · simp at hcs
    obtain ⟨rfl, rfl, rfl⟩ := hcs
    exact ⟨fun _ => 0, .inl rfl, Nat.zero_le _, fun _ => rfl⟩
  · simp at hcs
    obtain ⟨rfl, rfl, rfl⟩ := hcs
    refine ⟨fun i => zs.getD i 0, ?_, Nat.le_trans hl hm, fun h => by cases h⟩
    by_cases h0 : len = 0
    · exact .inl h0
    have hzl : len ≤ zs.length := by rw [hz]; split <;> omega
    have hc0 := hcell 0 (by omega)
    have hs : a'.spot = none := by simpa [Addr.add] using World.cell?_spot hc0
    have hlt : a'.block < w.heap.size := by
      have := cell_lt hc0
      rwa [add_spot hs] at this
    refine .inr ⟨a'.block, a'.off, congrArg some (addr_form hs), hlt, fun i hi => ?_, fun i hi => ?_⟩
    · rw [← add_spot hs]
      exact hcell i (by omega)
    · apply hwf
      show zs.getD i 0 ∈ zs
      rw [List.getD_eq_getElem?_getD, List.getElem?_eq_getElem (by omega)]
      simp

theorem three {α : Type} {l : List α} (h : l.length = 3) : ∃ a b c, l = [a, b, c] := by
  match l, h with
  | [a, b, c], _ => exact ⟨a, b, c, rfl⟩
theorem two {α : Type} {l : List α} (h : l.length = 2) : ∃ a b, l = [a, b] := by
  match l, h with
  | [a, b], _ => exact ⟨a, b, rfl⟩

theorem open_peer {fuel : Nat} {cs : List Value} {x : DataW H × List MemPlace} (h : DataW.trod enc Try.prog w 0 spare held fuel 57 cs = some x) :
    ∃ (y : Int × ByteArray × Int), cs = [.int .u32 y.1, .string y.2.1, .int .u64 y.2.2] ∧ y.2.1.size ≤ maxLen := by
  obtain ⟨xs, n, _, _, hl, hlen, hf⟩ := DataW.trod_struct Try.underlying57 h
  rw [Try.cells57] at hl
  obtain ⟨c0, c1, c2, rfl⟩ := three hl
  obtain ⟨x0, x1, x2, rfl⟩ := three (l := xs) (by simpa using hlen)
  have f0 := hf 0 _ rfl
  have f1 := hf 1 _ rfl
  have f2 := hf 2 _ rfl
  simp [Try.cells46] at f0
  simp [Try.cells9] at f1
  simp [Try.cells22] at f2
  obtain ⟨s, e0, _, _⟩ := DataW.trod_int Try.underlying46 f0
  obtain ⟨b, e1, _, hb⟩ := DataW.trod_string Try.underlying9 f1
  obtain ⟨t, e2, _, _⟩ := DataW.trod_int Try.underlying22 f2
  simp at e0 e1 e2
  subst e0 e1 e2
  exact ⟨(s, b, t), rfl, hb⟩

theorem open_peers {fuel : Nat} {a : Option Addr} {len cap : Nat} {x : DataW H × List MemPlace} (h : DataW.trod enc Try.prog w 0 spare held fuel 23 [.slice a len cap] = some x) :
    ∃ I N A, Peers w a len I N A ∧ len ≤ maxLen ∧ (∀ i, i < len → (A i).size ≤ maxLen) := by
  rcases open_slice Try.underlying23 h with ⟨hcs, _⟩ | ⟨a', len', cap', m, n, D, Pl, hcs, _, hl, hm, hmm, _, hx⟩
  · simp at hcs
    obtain ⟨rfl, rfl, rfl⟩ := hcs
    exact ⟨fun _ => 0, fun _ => 0, fun _ => ByteArray.empty, .inl rfl, Nat.zero_le _, fun i hi => absurd hi (Nat.not_lt_zero _)⟩
  · simp at hcs
    obtain ⟨rfl, rfl, rfl⟩ := hcs
    have hml : len ≤ m := by rw [hmm]; split <;> omega
    rw [Try.cells57] at hx
    obtain ⟨Y, hY⟩ := choose_lt (n := len) (α := Int × ByteArray × Int) (p := fun i y => (w.cells? 0 (a'.add (i * 3)) 3 = some [.int .u32 y.1, .string y.2.1, .int .u64 y.2.2]) ∧ y.2.1.size ≤ maxLen) (fun i hi => by
      obtain ⟨cs', h1, h2⟩ := hx i (by omega)
      obtain ⟨y, rfl, hy⟩ := open_peer h2
      exact ⟨y, h1, hy⟩)
    refine ⟨fun i => (Y i).1, fun i => (Y i).2.2, fun i => (Y i).2.1, ?_, Nat.le_trans hl hm, fun i hi => (hY i hi).2⟩
    by_cases h0 : len = 0
    · exact .inl h0
    have each : ∀ i, i < len → ∀ j, j < 3 → w.cell? ((a'.add (i * 3)).add j) = [Value.int .u32 (Y i).1, .string (Y i).2.1, .int .u64 (Y i).2.2][j]? := fun i hi => (World.cells?_some (hY i hi).1).2.2
    have hc0 := each 0 (by omega) 0 (by omega)
    simp [Addr.add] at hc0
    have hs : a'.spot = none := World.cell?_spot hc0
    have hlt : a'.block < w.heap.size := cell_lt hc0
    have addr : ∀ i j, (a'.add (i * 3)).add j = ⟨a'.block, a'.off + i * 3 + j, none⟩ := fun i j => by
      rw [Go.Deep.add_add, add_spot hs, Nat.add_assoc]
    refine .inr ⟨a'.block, a'.off, congrArg some (addr_form hs), hlt, ⟨fun i hi => ?_, fun i hi => ?_, fun i hi => ?_⟩⟩
    · simpa [addr] using each i hi 0 (by omega)
    · simpa [addr] using each i hi 1 (by omega)
    · simpa [addr] using each i hi 2 (by omega)

theorem open_run {fuel : Nat} {cs : List Value} {x : DataW H × List MemPlace} (h : DataW.trod enc Try.prog w 0 spare held fuel 77 cs = some x) :
    ∃ (y : Int × Int), cs = [.int .u32 y.1, .int .u64 y.2] := by
  obtain ⟨xs, n, _, _, hl, hlen, hf⟩ := DataW.trod_struct Try.underlying77 h
  rw [Try.cells77] at hl
  obtain ⟨c0, c1, rfl⟩ := two hl
  obtain ⟨x0, x1, rfl⟩ := two (l := xs) (by simpa using hlen)
  have f0 := hf 0 _ rfl
  have f1 := hf 1 _ rfl
  simp [Try.cells46] at f0
  simp [Try.cells22] at f1
  obtain ⟨s, e0, _, _⟩ := DataW.trod_int Try.underlying46 f0
  obtain ⟨t, e1, _, _⟩ := DataW.trod_int Try.underlying22 f1
  simp at e0 e1
  subst e0 e1
  exact ⟨(s, t), rfl⟩

theorem open_runs {fuel : Nat} {a : Option Addr} {len cap : Nat} {x : DataW H × List MemPlace} (h : DataW.trod enc Try.prog w 0 spare held fuel 26 [.slice a len cap] = some x) :
    ∃ I N, Runs w a len I N ∧ len ≤ maxLen := by
  rcases open_slice Try.underlying26 h with ⟨hcs, _⟩ | ⟨a', len', cap', m, n, D, Pl, hcs, _, hl, hm, hmm, _, hx⟩
  · simp at hcs
    obtain ⟨rfl, rfl, rfl⟩ := hcs
    exact ⟨fun _ => 0, fun _ => 0, .inl rfl, Nat.zero_le _⟩
  · simp at hcs
    obtain ⟨rfl, rfl, rfl⟩ := hcs
    have hml : len ≤ m := by rw [hmm]; split <;> omega
    rw [Try.cells77] at hx
    obtain ⟨Y, hY⟩ := choose_lt (n := len) (α := Int × Int) (p := fun i y => (w.cells? 0 (a'.add (i * 2)) 2 = some [.int .u32 y.1, .int .u64 y.2])) (fun i hi => by
      obtain ⟨cs', h1, h2⟩ := hx i (by omega)
      obtain ⟨y, rfl⟩ := open_run h2
      exact ⟨y, h1⟩)
    refine ⟨fun i => (Y i).1, fun i => (Y i).2, ?_, Nat.le_trans hl hm⟩
    by_cases h0 : len = 0
    · exact .inl h0
    have each : ∀ i, i < len → ∀ j, j < 2 → w.cell? ((a'.add (i * 2)).add j) = [Value.int .u32 (Y i).1, .int .u64 (Y i).2][j]? := fun i hi => (World.cells?_some (hY i hi)).2.2
    have hc0 := each 0 (by omega) 0 (by omega)
    simp [Addr.add] at hc0
    have hs : a'.spot = none := World.cell?_spot hc0
    have hlt : a'.block < w.heap.size := cell_lt hc0
    have addr : ∀ i j, (a'.add (i * 2)).add j = ⟨a'.block, a'.off + i * 2 + j, none⟩ := fun i j => by
      rw [Go.Deep.add_add, add_spot hs, Nat.add_assoc]
    refine .inr ⟨a'.block, a'.off, congrArg some (addr_form hs), hlt, ⟨fun i hi => ?_, fun i hi => ?_⟩⟩
    · simpa [addr] using each i hi 0 (by omega)
    · simpa [addr] using each i hi 1 (by omega)

theorem open_elemD {fuel : Nat} {cs : List Value} {x : DataW H × List MemPlace} (h : DataW.trod enc Try.prog w 0 spare held fuel 58 cs = some x) :
    ∃ (y : (Int × Int × Int × Int) × Option Addr × Nat × Nat), cs = [.int .u64 y.1.1, .int .u32 y.1.2.1, .int .u64 y.1.2.2.1, .int .u64 y.1.2.2.2, .slice y.2.1 y.2.2.1 y.2.2.2] ∧ (0 ≤ y.1.2.2.1 ∧ y.1.2.2.1 ≤ 18446744073709551615) ∧ y.2.2.1 ≤ maxLen ∧ Pay w y.2.1 y.2.2.1 ∧ (Lit.int .u32 y.1.2.1).wf = true := by
  obtain ⟨xs, n, _, _, hl, hlen, hf⟩ := DataW.trod_struct Try.underlying58 h
  rw [Try.cells58] at hl
  obtain ⟨c0, c1, c2, c3, c4, rfl⟩ := five hl
  obtain ⟨x0, x1, x2, x3, x4, rfl⟩ := five (l := xs) (by simpa using hlen)
  have f0 := hf 0 _ rfl
  have f1 := hf 1 _ rfl
  have f2 := hf 2 _ rfl
  have f3 := hf 3 _ rfl
  have f4 := hf 4 _ rfl
  simp [Try.cells22] at f0
  simp [Try.cells46] at f1
  simp [Try.cells22] at f2
  simp [Try.cells22] at f3
  simp [Try.cells47] at f4
  obtain ⟨v, e0, _, _⟩ := DataW.trod_int Try.underlying22 f0
  obtain ⟨s, e1, _, ws⟩ := DataW.trod_int Try.underlying46 f1
  obtain ⟨q, e2, _, wq⟩ := DataW.trod_int Try.underlying22 f2
  obtain ⟨t, e3, _, _⟩ := DataW.trod_int Try.underlying22 f3
  obtain ⟨pa, pl, pc, e4, hpl, hpay⟩ := open_pay f4
  simp at e0 e1 e2 e3 e4
  subst e0 e1 e2 e3 e4
  exact ⟨((v, s, q, t), pa, pl, pc), rfl, bounds_u64 wq, hpl, hpay, ws⟩

theorem open_msgsD {fuel : Nat} {a : Option Addr} {len cap : Nat} {x : DataW H × List MemPlace} (h : DataW.trod enc Try.prog w 0 spare held fuel 27 [.slice a len cap] = some x) :
    ∃ V S Q T PA PL PC, Msgs w a len V S Q T PA PL PC ∧ len ≤ maxLen ∧ (∀ i, i < len → PL i ≤ maxLen) ∧ (∀ i, i < len → Pay w (PA i) (PL i)) ∧ (∀ i, i < len → (Lit.int .u32 (S i)).wf = true) := by
  rcases open_slice Try.underlying27 h with ⟨hcs, _⟩ | ⟨a', len', cap', m, n, D, Pl, hcs, _, hl, hm, hmm, _, hx⟩
  · simp at hcs
    obtain ⟨rfl, rfl, rfl⟩ := hcs
    exact ⟨fun _ => 0, fun _ => 0, fun _ => 0, fun _ => 0, fun _ => none, fun _ => 0, fun _ => 0, .inl rfl, Nat.zero_le _, fun i hi => absurd hi (Nat.not_lt_zero _), fun i hi => absurd hi (Nat.not_lt_zero _), fun i hi => absurd hi (Nat.not_lt_zero _)⟩
  · simp at hcs
    obtain ⟨rfl, rfl, rfl⟩ := hcs
    have hml : len ≤ m := by rw [hmm]; split <;> omega
    rw [Try.cells58] at hx
    obtain ⟨Y, hY⟩ := choose_lt (n := len) (α := (Int × Int × Int × Int) × Option Addr × Nat × Nat) (p := fun i y => (w.cells? 0 (a'.add (i * 5)) 5 = some [.int .u64 y.1.1, .int .u32 y.1.2.1, .int .u64 y.1.2.2.1, .int .u64 y.1.2.2.2, .slice y.2.1 y.2.2.1 y.2.2.2]) ∧ (0 ≤ y.1.2.2.1 ∧ y.1.2.2.1 ≤ 18446744073709551615) ∧ y.2.2.1 ≤ maxLen ∧ Pay w y.2.1 y.2.2.1 ∧ (Lit.int .u32 y.1.2.1).wf = true) (fun i hi => by
      obtain ⟨cs', h1, h2⟩ := hx i (by omega)
      obtain ⟨y, rfl, hy⟩ := open_elemD h2
      exact ⟨y, h1, hy⟩)
    refine ⟨fun i => (Y i).1.1, fun i => (Y i).1.2.1, fun i => (Y i).1.2.2.1, fun i => (Y i).1.2.2.2, fun i => (Y i).2.1, fun i => (Y i).2.2.1, fun i => (Y i).2.2.2, ?_, Nat.le_trans hl hm, fun i hi => (hY i hi).2.2.1, fun i hi => (hY i hi).2.2.2.1, fun i hi => (hY i hi).2.2.2.2⟩
    by_cases h0 : len = 0
    · exact .inl h0
    have each : ∀ i, i < len → ∀ j, j < 5 → w.cell? ((a'.add (i * 5)).add j) = [Value.int .u64 (Y i).1.1, .int .u32 (Y i).1.2.1, .int .u64 (Y i).1.2.2.1, .int .u64 (Y i).1.2.2.2, .slice (Y i).2.1 (Y i).2.2.1 (Y i).2.2.2][j]? := fun i hi => (World.cells?_some (hY i hi).1).2.2
    have hc0 := each 0 (by omega) 0 (by omega)
    simp [Addr.add] at hc0
    have hs : a'.spot = none := World.cell?_spot hc0
    have hlt : a'.block < w.heap.size := cell_lt hc0
    have addr : ∀ i j, (a'.add (i * 5)).add j = ⟨a'.block, a'.off + i * 5 + j, none⟩ := fun i j => by
      rw [Go.Deep.add_add, add_spot hs, Nat.add_assoc]
    refine .inr ⟨a'.block, a'.off, ?_, hlt, ⟨fun i hi => ?_, fun i hi => ?_, fun i hi => ?_, fun i hi => ?_, fun i hi => ?_⟩⟩
    · obtain ⟨b, o, s⟩ := a'
      simp at hs
      subst hs
      rfl
    · simpa [addr] using each i hi 0 (by omega)
    · simpa [addr] using each i hi 1 (by omega)
    · simpa [addr] using each i hi 2 (by omega)
    · simpa [addr] using each i hi 3 (by omega)
    · simpa [addr] using each i hi 4 (by omega)

end
end Go.Proofs.Qxb6604164a
