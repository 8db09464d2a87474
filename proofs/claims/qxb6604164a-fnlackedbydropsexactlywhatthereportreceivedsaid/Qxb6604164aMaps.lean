/-
  MAPS FROM uint32 TO uint64 THAT THE CALL MAKES: what a look-up answers; the walks of lawMakeMap (9), lawSameMap (26).
-/
import Derived.Test.Qxb6604164aBase
import Derived.Maps.OwnSet
import Derived.Maps.OwnOps
import Derived.Deep.RegionHeld3
import Derived.Deep.DrawnRows
namespace Go.Proofs.Qxb6604164a
open Go.RowKit Go.Maps
set_option linter.unusedVariables false

theorem law46 : Keyed Try.prog 46 := int_keyed Try.underlying46
theorem zero22 (w : World) : (zeroValue 22).run Try.prog w = .ok (.int .u64 0) w := by kernel_rfl

/-- m is nil, or a block that reads as the map D. -/
def MapOwn (w : World) (m : Option Nat) (D : DataW Unit) : Prop :=
  m = none ∨ ∃ b n, m = some b ∧ w.ownsMap Try.prog 46 (plainElem Try.prog 22) b n D

theorem MapOwn.below {w w' : World} {m : Option Nat} {D : DataW Unit} (h : MapOwn w m D) (hb : Below w.heap.size w w') : MapOwn w' m D := by
  rcases h with h | ⟨b, n, h1, h2⟩
  · exact .inl h
  · have hlt := h2.lt
    obtain ⟨es, clock, h3, r⟩ := h2
    exact .inr ⟨b, n, h1, es, clock, (hb.block _ hlt).trans h3, r⟩

/-- What m answers at the key s. -/
def lk (m : Option Nat) (D : DataW Unit) (s : Int) : Int :=
  match m with
  | none => 0
  | some _ => match D.atKey (.int .u32 s) (.lit (.int .u64 0)) with
    | .lit (.int _ c) => c
    | _ => 0
def hs (m : Option Nat) (D : DataW Unit) (s : Int) : Bool :=
  match m with
  | none => false
  | some _ => Maps.has D (.int .u32 s)
def sz (m : Option Nat) (D : DataW Unit) : Nat :=
  match m with
  | none => 0
  | some _ => Maps.size D

theorem MapOwn.look {w : World} {m : Option Nat} {D : DataW Unit} (h : MapOwn w m D) {s : Int} (hw : (Lit.int .u32 s).wf = true) :
    (Instr.lookup 30 (.map m) (.int .u32 s) false).run Try.prog w = .ok (.int .u64 (lk m D s)) w := by
  rcases h with rfl | ⟨b, n, rfl, h⟩
  · rw [Maps.look_nil false law46 Try.underlying30 (zero22 w) (keyOf_int_mk Try.underlying46 hw)]
    rfl
  · obtain ⟨c, hrun, hat, _⟩ := h.lookup_int law46 Try.underlying30 Try.underlying22 (zero22 w) (keyOf_int_mk Try.underlying46 hw)
    rw [hrun]
    simp [lk, hat]

theorem MapOwn.look_ok {w : World} {m : Option Nat} {D : DataW Unit} (h : MapOwn w m D) {s : Int} (hw : (Lit.int .u32 s).wf = true) :
    (Instr.lookup 30 (.map m) (.int .u32 s) true).run Try.prog w = .ok (.tuple #[.int .u64 (lk m D s), .bool (hs m D s)]) w := by
  rcases h with rfl | ⟨b, n, rfl, h⟩
  · rw [Maps.look_nil true law46 Try.underlying30 (zero22 w) (keyOf_int_mk Try.underlying46 hw)]
    rfl
  · obtain ⟨v, ps, hrun, hv⟩ := h.look_ok law46 Try.underlying30 (zero22 w) (plainElem_int Try.underlying22 (by decide)) (keyOf_int_mk Try.underlying46 hw)
    obtain ⟨c, rfl, hc, _⟩ := plainElem_int_inv Try.underlying22 hv
    simp only [Prod.mk.injEq] at hc
    rw [hrun]
    simp [lk, hs, hc.1]

theorem MapOwn.len {w : World} {m : Option Nat} {D : DataW Unit} (h : MapOwn w m D) (ty : TypeId) :
    (Builtin.len_ #[30] ty #[.map m]).run Try.prog w = .ok (.int .i64 (sz m D)) w := by
  rcases h with rfl | ⟨b, n, rfl, h⟩
  · exact Maps.len_nil Try.underlying30 ty
  · exact h.len Try.underlying30 ty

theorem MapOwn.eql {w : World} {m : Option Nat} : (binOp .eql 30 (.map m) (.map none)).run Try.prog w = .ok (.bool m.isNone) w :=
  run_eql_map_nil w 30 46 22 m Try.underlying30

/-- A slice of integers of one kind: it is empty, or its elements lie in a block; each fits its kind. -/
def Ints (q : IntKind) (w : World) (a : Option Addr) (len : Nat) (Z : Nat → Int) : Prop :=
  len = 0 ∨ ∃ b off, a = some ⟨b, off, none⟩ ∧ b < w.heap.size ∧ (∀ i, i < len → w.cell? ⟨b, off + i, none⟩ = some (.int q (Z i))) ∧ ∀ i, i < len → (Lit.int q (Z i)).wf = true

theorem Ints.below {q : IntKind} {w w' : World} {a : Option Addr} {len : Nat} {Z : Nat → Int} (h : Ints q w a len Z) (hb : Below w.heap.size w w') : Ints q w' a len Z := by
  rcases h with h | ⟨b, off, ha, hl, h, hw⟩
  · exact .inl h
  · exact .inr ⟨b, off, ha, Nat.lt_of_lt_of_le hl hb.size, fun i hi => (hb.cell (by exact hl)).trans (h i hi), hw⟩

/-- It returns a map of the call's own, or nil. -/
def Mappy (w : World) (e : Ending) (w' : World) : Prop := ∃ m D, e = .returned (.map m) ∧ MapOwn w' m D ∧ Below w.heap.size w w'

set_option maxHeartbeats 400000 in
theorem map9_nil (c : Nat) (va : Option Addr) (lv cv : Nat) (w : World) : Calls Try.prog 9 #[.slice none 0 c, .slice va lv cv] w (Mappy w) := by
  have hnil := fun wx => Lib.run_eql_slice_nil (P := Try.prog) wx 24 46 none 0 c 0 0 Try.underlying24
  go_enter Try.func9, Try.ntmps9
  go_wp2
  go_ret
  exact ⟨none, .nil, rfl, .inl rfl, Below.refl _ _⟩

theorem gcell {w w' : World} {row : Option Nat} (hg : w.grownBy w' row) {b o : Nat} (hb : b < w.heap.size) (hne : some b ≠ row) : w'.cell? ⟨b, o, none⟩ = w.cell? ⟨b, o, none⟩ :=
  World.cell?_of_block (w := w) (hg.block b hb hne)

theorem run_makeMap_hint (n : Int) (w : World) : (Instr.makeMap 30 (some (.int .i64 n))).run Try.prog w = .ok (.map (some w.heap.size)) (w.alloc (.map #[] 0)) := by
  simp [Instr.makeMap, run_underlying Try.underlying30, asInt, asIntOf, Result.andThen]

set_option maxHeartbeats 1000000 in
theorem map9_less (ka : Addr) (va : Option Addr) (lk0 ck lv cv : Nat) (K V : Nat → Int) (w : World) (hK : Ints .u32 w (some ka) lk0 K) (hV : Ints .u64 w va lv V) (hlk : lk0 ≤ 65536) (hlv : lv ≤ 65536) (h1 : lv < lk0) :
    Calls Try.prog 9 #[.slice (some ka) lk0 ck, .slice va lv cv] w (Mappy w) := by
  have hnil := fun wx => Lib.run_eql_slice_nil (P := Try.prog) wx 24 46 (some ka) lk0 ck 0 0 Try.underlying24
  have hmm := run_makeMap_hint
  have HK : Hid (Ints .u32 w (some ka) lk0 K) := hK
  have HV : Hid (Ints .u64 w va lv V) := hV
  clear hK hV
  go_enter Try.func9, Try.ntmps9
  go_wp2
  go_loopw [7] (fun i wr => ∃ k : Nat, k ≤ lv ∧ i = .int .i64 k ∧ Below w.heap.size w wr ∧ ∃ D : DataW Unit, wr.ownsMap Try.prog 46 (plainElem Try.prog 22) w.heap.size k D) (fun i _ => lv - (intOf i).toNat)
  case atStart => exact ⟨0, Nat.zero_le _, rfl, (Below.refl _ _).alloc (Nat.le_refl _) _, _, World.ownsMap_made _ _ _ _⟩
  case round =>
    obtain ⟨k, hk, rfl, hbel, D, hown⟩ := hrel
    by_cases hlt : k < lv
    · rcases HK.out with h0 | ⟨kb, ko, hka, hkb, hkc, hkw⟩
      · omega
      rcases HV.out with h0 | ⟨vb, vo, hva, hvb, hvc, hvw⟩
      · omega
      cases hka
      subst hva
      have hsz := hbel.size
      have hc1 : wr.cell? ⟨kb, ko + k, none⟩ = some (.int .u32 (K k)) := (hbel.cell (by exact hkb)).trans (hkc k (by omega))
      have hc2 : wr.cell? ⟨vb, vo + k, none⟩ = some (.int .u64 (V k)) := (hbel.cell (by exact hvb)).trans (hvc k (by omega))
      obtain ⟨w1, hrun, hown1, hgrow1⟩ := hown.drew.update law46 Try.underlying30 (by unfold maxLen; omega) (keyOf_int_mk Try.underlying46 (hkw k (by omega))) (plainElem_int Try.underlying22 (hvw k (by omega)))
      have hd1 : w1.cell? ⟨kb, ko + k, none⟩ = some (.int .u32 (K k)) := (gcell hgrow1 (by show kb < wr.heap.size; omega) (by simp; omega)).trans hc1
      have hd2 : w1.cell? ⟨vb, vo + k, none⟩ = some (.int .u64 (V k)) := (gcell hgrow1 (by show vb < wr.heap.size; omega) (by simp; omega)).trans hc2
      have hbel1 : Below w.heap.size w w1 := hbel.drew.grown hgrow1 hsz (fun j hj => by cases hj; exact Nat.le_refl _)
      have hi1 : (k : Int) < (lk0 : Int) := by omega
      have hi2 : (k : Int) < (lv : Int) := by omega
      clear hkc hvc hkw hvw hown hbel hgrow1
      go_wp2
      go_region_held3 (fun w' => w'.cell? ⟨kb, ko + k, none⟩ = some (.int .u32 (K k)) ∧ w'.cell? ⟨vb, vo + k, none⟩ = some (.int .u64 (V k))) (go_keep) (fail)
      go_wp2
      go_roundw
      case rel => exact ⟨k + 1, by omega, by go_num, hbel1, _, hown1⟩
      case measure => simp [intOf]; omega
    · go_wp2
      go_ret
      exact ⟨_, D, rfl, .inr ⟨_, _, rfl, hown⟩, hbel⟩


set_option maxHeartbeats 1000000 in
theorem map9_more (ka : Addr) (va : Option Addr) (lk0 ck lv cv : Nat) (K V : Nat → Int) (w : World) (hK : Ints .u32 w (some ka) lk0 K) (hV : Ints .u64 w va lv V) (hlk : lk0 ≤ 65536) (hlv : lv ≤ 65536) (h1 : ¬ lv < lk0) :
    Calls Try.prog 9 #[.slice (some ka) lk0 ck, .slice va lv cv] w (Mappy w) := by
  have hnil := fun wx => Lib.run_eql_slice_nil (P := Try.prog) wx 24 46 (some ka) lk0 ck 0 0 Try.underlying24
  have hmm := run_makeMap_hint
  have HK : Hid (Ints .u32 w (some ka) lk0 K) := hK
  have HV : Hid (Ints .u64 w va lv V) := hV
  clear hK hV
  go_enter Try.func9, Try.ntmps9
  go_wp2
  go_loopw [7] (fun i wr => ∃ k : Nat, k ≤ lk0 ∧ i = .int .i64 k ∧ Below w.heap.size w wr ∧ ∃ D : DataW Unit, wr.ownsMap Try.prog 46 (plainElem Try.prog 22) w.heap.size k D) (fun i _ => lk0 - (intOf i).toNat)
  case atStart => exact ⟨0, Nat.zero_le _, rfl, (Below.refl _ _).alloc (Nat.le_refl _) _, _, World.ownsMap_made _ _ _ _⟩
  case round =>
    obtain ⟨k, hk, rfl, hbel, D, hown⟩ := hrel
    by_cases hlt : k < lk0
    · rcases HK.out with h0 | ⟨kb, ko, hka, hkb, hkc, hkw⟩
      · omega
      rcases HV.out with h0 | ⟨vb, vo, hva, hvb, hvc, hvw⟩
      · omega
      cases hka
      subst hva
      have hsz := hbel.size
      have hc1 : wr.cell? ⟨kb, ko + k, none⟩ = some (.int .u32 (K k)) := (hbel.cell (by exact hkb)).trans (hkc k (by omega))
      have hc2 : wr.cell? ⟨vb, vo + k, none⟩ = some (.int .u64 (V k)) := (hbel.cell (by exact hvb)).trans (hvc k (by omega))
      obtain ⟨w1, hrun, hown1, hgrow1⟩ := hown.drew.update law46 Try.underlying30 (by unfold maxLen; omega) (keyOf_int_mk Try.underlying46 (hkw k (by omega))) (plainElem_int Try.underlying22 (hvw k (by omega)))
      have hd1 : w1.cell? ⟨kb, ko + k, none⟩ = some (.int .u32 (K k)) := (gcell hgrow1 (by show kb < wr.heap.size; omega) (by simp; omega)).trans hc1
      have hd2 : w1.cell? ⟨vb, vo + k, none⟩ = some (.int .u64 (V k)) := (gcell hgrow1 (by show vb < wr.heap.size; omega) (by simp; omega)).trans hc2
      have hbel1 : Below w.heap.size w w1 := hbel.drew.grown hgrow1 hsz (fun j hj => by cases hj; exact Nat.le_refl _)
      have hi1 : (k : Int) < (lk0 : Int) := by omega
      have hi2 : (k : Int) < (lv : Int) := by omega
      clear hkc hvc hkw hvw hown hbel hgrow1
      go_wp2
      go_region_held3 (fun w' => w'.cell? ⟨kb, ko + k, none⟩ = some (.int .u32 (K k)) ∧ w'.cell? ⟨vb, vo + k, none⟩ = some (.int .u64 (V k))) (go_keep) (fail)
      go_wp2
      go_roundw
      case rel => exact ⟨k + 1, by omega, by go_num, hbel1, _, hown1⟩
      case measure => simp [intOf]; omega
    · go_wp2
      go_ret
      exact ⟨_, D, rfl, .inr ⟨_, _, rfl, hown⟩, hbel⟩


theorem map9 (ka va : Option Addr) (lk0 ck lv cv : Nat) (K V : Nat → Int) (w : World) (hK : Ints .u32 w ka lk0 K) (hV : Ints .u64 w va lv V) (hlk : lk0 ≤ 65536) (hlv : lv ≤ 65536) (hn : ka = none → lk0 = 0) :
    Calls Try.prog 9 #[.slice ka lk0 ck, .slice va lv cv] w (Mappy w) := by
  cases ka with
  | none => rw [hn rfl]; exact map9_nil ck va lv cv w
  | some ka =>
    by_cases h : lv < lk0
    · exact map9_less ka va lk0 ck lv cv K V w hK hV hlk hlv h
    · exact map9_more ka va lk0 ck lv cv K V w hK hV hlk hlv h

set_option maxHeartbeats 400000 in
theorem same26 (m : Option Nat) (D : DataW Unit) (ka : Option Addr) (lk0 ck : Nat) (K : Nat → Int) (w : World) (hm : MapOwn w m D) (hK : Ints .u32 w ka lk0 K) (hlk : lk0 ≤ 65536) :
    Calls Try.prog 26 #[.map m, .map m, .slice ka lk0 ck] w fun e w' => e = .returned (.bool true) ∧ w' = w := by
  have heq := MapOwn.eql (w := w) (m := m)
  have hlen := hm.len
  have HK : Hid (Ints .u32 w ka lk0 K) := hK
  have HM : Hid (MapOwn w m D) := hm
  have hbb : (m.isNone != m.isNone) = false := by simp
  have hll : (((sz m D : Nat) : Int) != ((sz m D : Nat) : Int)) = false := by simp
  clear hK hm
  go_enter Try.func26, Try.ntmps26
  go_wp2
  go_loop [7] (fun i => ∃ k : Nat, k ≤ lk0 ∧ i = .int .i64 k) (fun i => lk0 - (intOf i).toNat)
  case atStart => exact ⟨0, Nat.zero_le _, rfl⟩
  case round =>
    obtain ⟨k, hk, rfl⟩ := hrel
    by_cases hlt : k < lk0
    · rcases HK.out with h0 | ⟨kb, ko, hka, hkb, hkc, hkw⟩
      · omega
      subst hka
      have hc1 := hkc k hlt
      have hi1 : (k : Int) < (lk0 : Int) := by omega
      have hlook := HM.out.look_ok (hkw k hlt)
      have hvv : (lk m D (K k) != lk m D (K k)) = false := by simp
      have hoo : (hs m D (K k) != hs m D (K k)) = false := by simp
      clear hkc hkw
      go_wp2
      go_round
      case rel => exact ⟨k + 1, by omega, by go_num⟩
      case measure => simp [intOf]; omega
    · go_wp2
      go_ret
      exact ⟨rfl, rfl⟩

end Go.Proofs.Qxb6604164a
