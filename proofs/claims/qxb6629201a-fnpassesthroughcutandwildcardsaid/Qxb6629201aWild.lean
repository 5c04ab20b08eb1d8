/-
  A star and an end of the host make an entry that matches the host.
-/
import Derived.Test.Qxb6629201aOpen
namespace Go.Proofs.Qxb6629201a
open Go.RowKit

theorem toList_append' (a b : ByteArray) : (a ++ b).toList = a.toList ++ b.toList := by
  rw [ByteArray.toList_eq, ByteArray.toList_eq, ByteArray.toList_eq]
  simp

theorem toList_extract' (a : ByteArray) (i j : Nat) : (a.extract i j).toList = (a.toList.take j).drop i := by
  rw [ByteArray.toList_eq, ByteArray.toList_eq]
  simp [List.drop_take]

theorem ba_ext {a b : ByteArray} (h : a.toList = b.toList) : a = b := by
  rw [ByteArray.toList_eq, ByteArray.toList_eq] at h
  obtain ⟨⟨x⟩⟩ := a
  obtain ⟨⟨y⟩⟩ := b
  simp at h
  rw [h]

theorem size_toList (a : ByteArray) : a.toList.length = a.size := by
  rw [ByteArray.toList_eq]
  simp

theorem hm_wild (h : ByteArray) (s : Nat) (hs : s ≤ h.size) (e : ByteArray) (he : (⟨#[42]⟩ : ByteArray) ++ h.extract s h.size = e) : hm h e = true ∧ e.size = 1 + (h.size - s) := by
  have e0 : e.toList = 42 :: (h.extract s h.size).toList := by
    rw [← he, toList_append', ByteArray.toList_eq (⟨#[42]⟩ : ByteArray)]
    rfl
  have e1 : (h.extract s h.size).size = h.size - s := by rw [ByteArray.size_extract]; omega
  have e2 : e.size = 1 + (h.size - s) := by
    rw [← size_toList, e0, List.length_cons, size_toList, e1]; omega
  have e3 : star e = true := by
    unfold star
    rw [toList_extract', e0]
    simp [e2]
  have e4 : e.extract 1 e.size = h.extract s h.size := by
    apply ba_ext
    rw [toList_extract', List.take_of_length_le (by rw [size_toList]; exact Nat.le_refl _), e0]
    rfl
  refine ⟨?_, e2⟩
  unfold hm
  rw [if_pos e3, e4]
  unfold suf
  rw [e1, show h.size - (h.size - s) = s by omega]
  simp
end Go.Proofs.Qxb6629201a
