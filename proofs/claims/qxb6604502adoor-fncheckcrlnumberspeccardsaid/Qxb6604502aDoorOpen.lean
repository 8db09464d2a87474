/-
  THE ARGUMENTS AND THE LISTED VARIABLE, OPENED.
-/
import Derived.Test.Qxb6604502aDoorZZ
import Derived.ProofKit
import Derived.OpenShut
import Derived.Deep.Slices
import Derived.ChangeOld
import Derived.ChangeVars
import Derived.LaidMore
import Derived.Stop.Joined
namespace Go.Proofs.Qxb6604502aDoor
open Go.ChangeShapes Go.WideShapes Go.ChangeAt Go.RowKit Go.Deep
set_option linter.unusedVariables false

theorem Tryd.cells3 : Tryd.prog.cellsOf 3 = 1 := by kernel_rfl
theorem Tryd.cells4 : Tryd.prog.cellsOf 4 = 1 := by kernel_rfl
theorem Tryd.cells28 : Tryd.prog.cellsOf 28 = 1 := by kernel_rfl
/-- The name of the listed variable, as the given row bears it. -/
def vOid : String := Rows.fnCheckCRLNumberSpecRow.named.headD Rows.fnCheckCRLNumberSpecRow.spec
theorem gOid : Tryd.prog.globalNamed vOid = some 0 := by kernel_rfl
theorem tOid : (Tryd.prog.globals[0]?).map (·.type) = some 34 := by kernel_rfl

theorem cell_lt {w : World} {a : Addr} {v : Value} (h : w.cell? a = some v) : a.block < w.heap.size := by
  unfold World.cell? at h
  cases hb : w.heap[a.block]? with
  | none => rw [hb] at h; simp at h
  | some o => exact (Array.getElem?_eq_some_iff.1 hb).1

theorem add_spot {a : Addr} (h : a.spot = none) (i : Nat) : a.add i = ⟨a.block, a.off + i, none⟩ := by
  obtain ⟨b, o, s⟩ := a
  simp at h
  subst h
  unfold Addr.add
  by_cases hi : i = 0 <;> simp [hi]

theorem addr_form {a : Addr} (h : a.spot = none) : a = ⟨a.block, a.off, none⟩ := by
  obtain ⟨b, o, s⟩ := a
  simp at h
  subst h
  rfl

section
variable {H : Type} {enc : TypeId × Value → H} {w : World} {spare : Nat → Bool} {held : Bool}

theorem open_row {t : TypeId} {fuel : Nat} {cs : List Value} {x : DataW H × List MemPlace} (ht : Tryd.prog.underlying t = some (.slice 3)) (h : DataW.trod enc Tryd.prog w 0 spare held fuel t cs = some x) :
    ∃ a len cap Z, cs = [.slice a len cap] ∧ Ints w a len Z ∧ len ≤ maxLen ∧ (a = none → len = 0) := by
  rcases open_ints ht Tryd.underlying3 Tryd.cells3 h with ⟨hcs, _⟩ | ⟨a, len, cap, zs, hcs, _, hl, hm, hz, _, hcell, _⟩
  · exact ⟨none, 0, 0, fun _ => 0, hcs, .inl rfl, Nat.zero_le _, fun _ => rfl⟩
  · refine ⟨some a, len, cap, fun i => zs.getD i 0, hcs, ?_, Nat.le_trans hl hm, fun h => by cases h⟩
    by_cases h0 : len = 0
    · exact .inl h0
    have hzl : len ≤ zs.length := by rw [hz]; split <;> omega
    have hc0 := hcell 0 (by omega)
    have hs : a.spot = none := by simpa [Addr.add] using World.cell?_spot hc0
    have hlt : a.block < w.heap.size := by
      have := cell_lt hc0
      rwa [add_spot hs] at this
    exact .inr ⟨a.block, a.off, congrArg some (addr_form hs), hlt, fun i hi => by rw [← add_spot hs]; exact hcell i (by omega)⟩

theorem open_ids {fuel : Nat} {a : Option Addr} {n c : Nat} {x : DataW H × List MemPlace} (h : DataW.trod enc Tryd.prog w 0 spare held fuel 22 [.slice a n c] = some x) :
    ∃ IA IL IC Z, Ids w a n IA IL IC Z ∧ n ≤ maxLen ∧ (∀ i, i < n → IL i ≤ maxLen) ∧ (a = none → n = 0) ∧ (∀ i, i < n → IA i = none → IL i = 0) := by
  rcases open_slice1 Tryd.underlying22 Tryd.cells28 h with ⟨hcs, _⟩ | ⟨a', len', cap', m, q, V, D, Pl, hcs, _, hl, hm, hmm, _, hx⟩
  · simp at hcs
    obtain ⟨rfl, rfl, rfl⟩ := hcs
    exact ⟨fun _ => none, fun _ => 0, fun _ => 0, fun _ _ => 0, ⟨.inl rfl, fun i hi => absurd hi (Nat.not_lt_zero _)⟩, Nat.zero_le _, fun i hi => absurd hi (Nat.not_lt_zero _), fun _ => rfl, fun i hi => absurd hi (Nat.not_lt_zero _)⟩
  · simp at hcs
    obtain ⟨rfl, rfl, rfl⟩ := hcs
    have hml : n ≤ m := by rw [hmm]; split <;> omega
    obtain ⟨Y, hY⟩ := choose_lt (n := n) (α := Option Addr × Nat × Nat × (Nat → Int)) (p := fun i y => w.cell? (a'.add i) = some (.slice y.1 y.2.1 y.2.2.1) ∧ Ints w y.1 y.2.1 y.2.2.2 ∧ y.2.1 ≤ maxLen ∧ (y.1 = none → y.2.1 = 0)) (fun i hi => by
      obtain ⟨h1, h2⟩ := hx i (by omega)
      obtain ⟨ia, il, ic, Z, e, r⟩ := open_row Tryd.underlying28 h2
      simp at e
      exact ⟨(ia, il, ic, Z), by rw [h1, e], r⟩)
    refine ⟨fun i => (Y i).1, fun i => (Y i).2.1, fun i => (Y i).2.2.1, fun i => (Y i).2.2.2, ⟨?_, fun i hi => (hY i hi).2.1⟩, Nat.le_trans hl hm, fun i hi => (hY i hi).2.2.1, fun h => (by cases h), fun i hi => (hY i hi).2.2.2⟩
    by_cases h0 : n = 0
    · exact .inl h0
    have hc0 := (hY 0 (by omega)).1
    have hs : a'.spot = none := by simpa [Addr.add] using World.cell?_spot hc0
    have hlt : a'.block < w.heap.size := by
      have := cell_lt hc0
      rwa [add_spot hs] at this
    exact .inr ⟨a'.block, a'.off, congrArg some (addr_form hs), hlt, fun i hi => by rw [← add_spot hs]; exact (hY i hi).1⟩

theorem open_bools {fuel : Nat} {a : Option Addr} {n c : Nat} {x : DataW H × List MemPlace} (h : DataW.trod enc Tryd.prog w 0 spare held fuel 23 [.slice a n c] = some x) :
    ∃ C, Bools w a n C ∧ n ≤ maxLen ∧ (a = none → n = 0) := by
  rcases open_slice1 Tryd.underlying23 Tryd.cells4 h with ⟨hcs, _⟩ | ⟨a', len', cap', m, q, V, D, Pl, hcs, _, hl, hm, hmm, _, hx⟩
  · simp at hcs
    obtain ⟨rfl, rfl, rfl⟩ := hcs
    exact ⟨fun _ => false, .inl rfl, Nat.zero_le _, fun _ => rfl⟩
  · simp at hcs
    obtain ⟨rfl, rfl, rfl⟩ := hcs
    have hml : n ≤ m := by rw [hmm]; split <;> omega
    obtain ⟨Y, hY⟩ := choose_lt (n := n) (α := Bool) (p := fun i y => w.cell? (a'.add i) = some (.bool y)) (fun i hi => by
      obtain ⟨h1, h2⟩ := hx i (by omega)
      obtain ⟨y, e, _⟩ := DataW.trod_bool Tryd.underlying4 h2
      simp at e
      exact ⟨y, by rw [h1, e]⟩)
    refine ⟨Y, ?_, Nat.le_trans hl hm, fun h => by cases h⟩
    by_cases h0 : n = 0
    · exact .inl h0
    have hc0 := hY 0 (by omega)
    have hs : a'.spot = none := by simpa [Addr.add] using World.cell?_spot hc0
    have hlt : a'.block < w.heap.size := by
      have := cell_lt hc0
      rwa [add_spot hs] at this
    exact .inr ⟨a'.block, a'.off, congrArg some (addr_form hs), hlt, fun i hi => by rw [← add_spot hs]; exact hY i hi⟩
end

def laidL : List (String × DataW Unit) := [(vOid, Rows.laid_example_com_vouchline_vouchline_profile_oidCRLNumber)]

theorem lits_inj {H : Type} : ∀ {l : List Int} {a b c d : Int}, lits (H := H) .i64 l = [.lit (.int .i64 a), .lit (.int .i64 b), .lit (.int .i64 c), .lit (.int .i64 d)] → l = [a, b, c, d] := by
  intro l a b c d h
  match l, h with
  | [], h => simp [lits] at h
  | [_], h => simp [lits] at h
  | [_, _], h => simp [lits] at h
  | [_, _, _], h => simp [lits] at h
  | [w, x, y, z], h =>
    simp [lits] at h
    obtain ⟨rfl, rfl, rfl, rfl⟩ := h
    rfl
  | _ :: _ :: _ :: _ :: _ :: _, h => simp [lits] at h

/-- WHAT THE CONDITION GIVES THE WALKS: the variable's cell, the four numbers. -/
theorem oid_of_laid {W : World} (h : laidMetH Tryd.prog laidL W) : ∃ o oc, Oid W o oc ∧ W.var? Tryd.prog vOid = some #[.slice o 4 oc] := by
  rw [MakeChecks.laidMetH_plain _ _ _ (by kernel_rfl)] at h
  obtain ⟨ps, ⟨g0, t0, cs0, f0, p0, q0, hg0, ht0, hv0, hd0, _, _⟩, _, _⟩ := h
  obtain rfl := Option.some.inj (gOid.symm.trans hg0)
  obtain rfl := Option.some.inj (tOid.symm.trans ht0)
  rcases open_ints Tryd.underlying34 Tryd.underlying3 Tryd.cells3 hd0 with ⟨hcs, hx⟩ | ⟨a, len, cap, zs, hcs, _, hl, hm, hz, hx, hcell, _⟩
  · simp [Rows.laid_example_com_vouchline_vouchline_profile_oidCRLNumber] at hx
  · simp only [Prod.mk.injEq, Rows.laid_example_com_vouchline_vouchline_profile_oidCRLNumber] at hx
    have hd := hx.1
    simp only [DataW.slice.injEq] at hd
    have hlit : lits (H := Unit) .i64 (zs.take len) = [.lit (.int .i64 2), .lit (.int .i64 5), .lit (.int .i64 29), .lit (.int .i64 20)] := hd.1.symm
    have ht : zs.take len = [2, 5, 29, 20] := lits_inj hlit
    have hzl : len ≤ zs.length := by rw [hz]; split <;> omega
    have h4 : len = 4 := by
      have := congrArg List.length ht
      simp at this
      omega
    subst h4
    have hg : ∀ i, i < 4 → zs.getD i 0 = oidZ i := fun i hi => by
      have e : zs.getD i 0 = (zs.take 4).getD i 0 := by
        rw [List.getD_eq_getElem?_getD, List.getD_eq_getElem?_getD, List.getElem?_take_of_lt hi]
      rw [e, ht]
      rcases (show i = 0 ∨ i = 1 ∨ i = 2 ∨ i = 3 by omega) with rfl | rfl | rfl | rfl <;> rfl
    have hc0 := hcell 0 (by omega)
    have hs : a.spot = none := by simpa [Addr.add] using World.cell?_spot hc0
    have hlt : a.block < W.heap.size := by
      have := cell_lt hc0
      rwa [add_spot hs] at this
    have hv1 : cs0 = #[.slice (some a) 4 cap] := Array.eq_one_of_toList hcs
    subst hv1
    have hcl : W.cell? ⟨0, 0, none⟩ = some (.slice (some a) 4 cap) := by simpa using World.var?_cell hg0 hv0 0
    exact ⟨some a, cap, ⟨cell_lt hcl, hcl, .inr ⟨a.block, a.off, congrArg some (addr_form hs), hlt, fun i hi => by rw [← add_spot hs, hcell i (by omega), hg i hi]⟩⟩, hv0⟩

end Go.Proofs.Qxb6604502aDoor
