/-
  WHAT THE WALKS SPEAK OF: a slice of LawData in memory; the posts' own words. No Go text.
-/
import Derived.Test.Qxb6604164aRows
import Derived.WalkKit
import Derived.WalkSpells
import Derived.WalkLawsBesides
import Derived.Deep.OwnRows
namespace Go.Proofs.Qxb6604164a
open Go.RowKit

/-- 'len' LawData lie in block b from offset 'off' on, five cells each. -/
structure MsgsAt (w : World) (b off len : Nat) (V S Q T : Nat → Int) (PA : Nat → Option Addr) (PL PC : Nat → Nat) : Prop where
  c0 : ∀ i, i < len → w.cell? ⟨b, off + i * 5, none⟩ = some (.int .u64 (V i))
  c1 : ∀ i, i < len → w.cell? ⟨b, off + i * 5 + 1, none⟩ = some (.int .u32 (S i))
  c2 : ∀ i, i < len → w.cell? ⟨b, off + i * 5 + 2, none⟩ = some (.int .u64 (Q i))
  c3 : ∀ i, i < len → w.cell? ⟨b, off + i * 5 + 3, none⟩ = some (.int .u64 (T i))
  c4 : ∀ i, i < len → w.cell? ⟨b, off + i * 5 + 4, none⟩ = some (.slice (PA i) (PL i) (PC i))

theorem MsgsAt.below {w w' : World} {b off len : Nat} {V S Q T : Nat → Int} {PA : Nat → Option Addr} {PL PC : Nat → Nat} (h : MsgsAt w b off len V S Q T PA PL PC) {B : Nat} (hb : Below B w w') (hB : b < B) : MsgsAt w' b off len V S Q T PA PL PC :=
  ⟨fun i hi => (hb.cell (by exact hB)).trans (h.c0 i hi), fun i hi => (hb.cell (by exact hB)).trans (h.c1 i hi), fun i hi => (hb.cell (by exact hB)).trans (h.c2 i hi), fun i hi => (hb.cell (by exact hB)).trans (h.c3 i hi), fun i hi => (hb.cell (by exact hB)).trans (h.c4 i hi)⟩

/-- A slice of LawData: it is empty, or its 'len' elements lie in a block. -/
def Msgs (w : World) (a : Option Addr) (len : Nat) (V S Q T : Nat → Int) (PA : Nat → Option Addr) (PL PC : Nat → Nat) : Prop :=
  len = 0 ∨ ∃ b off, a = some ⟨b, off, none⟩ ∧ b < w.heap.size ∧ MsgsAt w b off len V S Q T PA PL PC

theorem Msgs.below {w w' : World} {a : Option Addr} {len : Nat} {V S Q T : Nat → Int} {PA : Nat → Option Addr} {PL PC : Nat → Nat} (h : Msgs w a len V S Q T PA PL PC) (hb : Below w.heap.size w w') : Msgs w' a len V S Q T PA PL PC := by
  rcases h with h | ⟨b, off, ha, hl, h⟩
  · exact .inl h
  · exact .inr ⟨b, off, ha, Nat.lt_of_lt_of_le hl hb.size, h.below hb hl⟩

/-- A slice of bytes: it is empty, or its 'len' elements lie in a block. -/
def Pay (w : World) (a : Option Addr) (len : Nat) : Prop :=
  len = 0 ∨ ∃ b off, a = some ⟨b, off, none⟩ ∧ b < w.heap.size ∧ ∃ z : Nat → Int, ∀ i, i < len → w.cell? ⟨b, off + i, none⟩ = some (.int .u8 (z i))

theorem Pay.below {w w' : World} {a : Option Addr} {len : Nat} (h : Pay w a len) (hb : Below w.heap.size w w') : Pay w' a len := by
  rcases h with h | ⟨b, off, ha, hl, z, h⟩
  · exact .inl h
  · exact .inr ⟨b, off, ha, Nat.lt_of_lt_of_le hl hb.size, z, fun i hi => (hb.cell (by exact hl)).trans (h i hi)⟩

/-- It returns a bool, the world is as it was; where the bool is true, R. -/
def Boolly (w : World) (R : Prop) (e : Ending) (w' : World) : Prop := ∃ bb, e = .returned (.bool bb) ∧ w = w' ∧ (bb = true → R)
theorem Boolly.no {w : World} {R : Prop} {e : Ending} (h : e = .returned (.bool false)) : Boolly w R e w := ⟨false, h, rfl, by simp⟩
theorem Boolly.yes {w : World} {R : Prop} {e : Ending} (h : e = .returned (.bool true)) (hR : R) : Boolly w R e w := ⟨true, h, rfl, fun _ => hR⟩

/-- It returns an int, the world is as it was. -/
def Inty (w : World) (e : Ending) (w' : World) : Prop := ∃ r, e = .returned (.int .i64 r) ∧ w = w'
theorem Inty.mk {w : World} {e : Ending} {r : Int} (h : e = .returned (.int .i64 r)) : Inty w e w := ⟨r, h, rfl⟩

/-- It returns a bool; of the tape alone something was drawn; where the bool is true, R. -/
def Drawly (w : World) (R : Prop) (e : Ending) (w' : World) : Prop := ∃ bb, e = .returned (.bool bb) ∧ (∃ n, w' = w.drewN n) ∧ (bb = true → R)
theorem Drawly.no {w w' : World} {R : Prop} {e : Ending} (h : e = .returned (.bool false)) (hw : ∃ n, w' = w.drewN n) : Drawly w R e w' := ⟨false, h, hw, by simp⟩
theorem Drawly.yes {w w' : World} {R : Prop} {e : Ending} (h : e = .returned (.bool true)) (hw : ∃ n, w' = w.drewN n) (hR : R) : Drawly w R e w' := ⟨true, h, hw, fun _ => hR⟩

/-- It returns some slice; nothing that was there has turned. -/
def Slicy (w : World) (e : Ending) (w' : World) : Prop := ∃ a l c, e = .returned (.slice a l c) ∧ Below w.heap.size w w'
theorem Slicy.mk {w w' : World} {e : Ending} {a : Option Addr} {l c : Nat} (h : e = .returned (.slice a l c)) (hb : Below w.heap.size w w') : Slicy w e w' := ⟨a, l, c, h, hb⟩

end Go.Proofs.Qxb6604164a
