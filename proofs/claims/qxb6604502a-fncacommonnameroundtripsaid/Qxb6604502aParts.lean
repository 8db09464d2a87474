/-
  PLAIN FACTS ON BYTES: no Go text.
-/
import Derived.WalkKit
namespace Go.Proofs.Qxb6604502a

def rootS : List UInt8 := [32, 83, 72, 65, 75, 69, 78, 32, 82, 111, 111, 116, 32, 67, 65]
def interS : List UInt8 := [32, 83, 72, 65, 75, 69, 78, 32, 73, 110, 116, 101, 114, 109, 101, 100, 105, 97, 116, 101, 32, 67, 65]

/-- t stands in s from place n on. -/
def At (s : ByteArray) (n : Nat) (t : List UInt8) : Prop := ∀ i, i < t.length → s.data.toList.getD (n + i) 0 = t.getD i 0

theorem get_getD (s : ByteArray) (a : Nat) (h : a < s.size) : s[a] = s.data.toList.getD a 0 := by
  have h' : a < s.data.toList.length := by simpa using h
  rw [List.getD_eq_getElem?_getD, List.getElem?_eq_getElem h']
  rfl

theorem byte_eq {s t : ByteArray} {a b : Nat} (ha : a < s.size) (hb : b < t.size) (h : ((s[a].toNat : Int) != (t[b].toNat : Int)) = false) : s.data.toList.getD a 0 = t.data.toList.getD b 0 := by
  rw [← get_getD s a ha, ← get_getD t b hb]
  have h1 : (s[a].toNat : Int) = (t[b].toNat : Int) := by simpa using h
  exact UInt8.toNat_inj.1 (by omega)

theorem byte_ne {s t : ByteArray} {a b : Nat} (ha : a < s.size) (hb : b < t.size) (h : ((s[a].toNat : Int) != (t[b].toNat : Int)) = true) : s.data.toList.getD a 0 ≠ t.data.toList.getD b 0 := by
  rw [← get_getD s a ha, ← get_getD t b hb]
  intro e
  rw [e] at h
  simp at h

theorem at_append (o t : ByteArray) : At (o ++ t) o.size t.data.toList := by
  intro i hi
  have e : (o ++ t).data.toList = o.data.toList ++ t.data.toList := by simp
  rw [e, List.getD_eq_getElem?_getD, List.getElem?_append_right (by simp)]
  simp [List.getD_eq_getElem?_getD]

theorem extract_append (o t : ByteArray) : (o ++ t).extract 0 o.size = o := by
  apply ByteArray.ext
  simp

theorem size_root (o : ByteArray) : (o ++ ⟨rootS.toArray⟩ : ByteArray).size = o.size + 15 := by rw [ByteArray.size_append]; rfl
theorem size_inter (o : ByteArray) : (o ++ ⟨interS.toArray⟩ : ByteArray).size = o.size + 23 := by rw [ByteArray.size_append]; rfl

/-- The Intermediate suffix does not end in the Root suffix. -/
theorem not_root (o : ByteArray) : ¬ At (o ++ ⟨interS.toArray⟩) (o.size + 8) rootS := by
  intro h
  have h0 := h 0 (by decide)
  have h1 := at_append o ⟨interS.toArray⟩ 8 (by decide)
  rw [Nat.add_zero] at h0
  rw [h0] at h1
  revert h1
  decide

end Go.Proofs.Qxb6604502a
