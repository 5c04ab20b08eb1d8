/-
  The walks of LockWait.With and of the two guards on lengths.
-/
import Derived.Test.Qxb6629162aRows
import Derived.WalkKit
import Derived.WalkSpells
import Derived.WalkLawsBesides
namespace Go.Proofs.Qxb6629162a
open Go.RowKit

/-- LockWait.With, plainly: the strictest of two words, NoWait before Waits before the first that is not empty. -/
def withB (a b : ByteArray) : ByteArray :=
  if a.toList = [110, 111, 119, 97, 105, 116] ∨ b.toList = [110, 111, 119, 97, 105, 116] then ⟨#[110, 111, 119, 97, 105, 116]⟩
  else if a.toList = [119, 97, 105, 116] ∨ b.toList = [119, 97, 105, 116] then ⟨#[119, 97, 105, 116]⟩
  else if a.toList.isEmpty = true then b else a

theorem wb1 {a b : ByteArray} (h : a.toList = [110, 111, 119, 97, 105, 116]) : ⟨#[110, 111, 119, 97, 105, 116]⟩ = withB a b := by simp [withB, h]
theorem wb2 {a b : ByteArray} (h : (a.toList == [110, 111, 119, 97, 105, 116]) = true ∨ (b.toList == [110, 111, 119, 97, 105, 116]) = true) : ⟨#[110, 111, 119, 97, 105, 116]⟩ = withB a b := by
  simp only [beq_iff_eq] at h
  simp [withB, h]
theorem wb3 {a b : ByteArray} (h1 : (a.toList == [110, 111, 119, 97, 105, 116]) = false ∧ (b.toList == [110, 111, 119, 97, 105, 116]) = false) (h : (a.toList == [119, 97, 105, 116]) = true ∨ (b.toList == [119, 97, 105, 116]) = true) : ⟨#[119, 97, 105, 116]⟩ = withB a b := by
  simp only [beq_iff_eq, beq_eq_false_iff_ne, ne_eq] at h h1
  simp [withB, h, h1]
theorem wb4 {a b : ByteArray} (h1 : (a.toList == [110, 111, 119, 97, 105, 116]) = false ∧ (b.toList == [110, 111, 119, 97, 105, 116]) = false) (h2 : (a.toList == [119, 97, 105, 116]) = false ∧ (b.toList == [119, 97, 105, 116]) = false) (h : (!a.toList.isEmpty) = true) : a = withB a b := by
  simp only [beq_eq_false_iff_ne, ne_eq, Bool.not_eq_true'] at h h1 h2
  simp [withB, h, h1, h2]
theorem wb5 {a b : ByteArray} (h1 : (a.toList == [110, 111, 119, 97, 105, 116]) = false ∧ (b.toList == [110, 111, 119, 97, 105, 116]) = false) (h2 : (a.toList == [119, 97, 105, 116]) = false ∧ (b.toList == [119, 97, 105, 116]) = false) (h : (!a.toList.isEmpty) = false) : b = withB a b := by
  simp only [beq_eq_false_iff_ne, ne_eq, Bool.not_eq_false'] at h h1 h2
  simp [withB, h, h1, h2]
theorem ret_str {a b : ByteArray} (h : a = b) : Ending.returned (.string a) = .returned (.string b) := by rw [h]

set_option maxHeartbeats 400000 in
theorem with_any (a b x : ByteArray) (hx : x = withB a b) (w : World) :
    Calls Try.prog 6 #[.string a, .string b] w fun e w' => e = .returned (.string x) ∧ w' = w := by
  have HX : Hid (x = withB a b) := hx
  clear hx
  go_enter Try.func6, Try.ntmps6
  go_wp2
  · go_ret; exact ⟨ret_str ((wb1 ‹_›).trans HX.out.symm), rfl⟩
  · go_ret; exact ⟨ret_str ((wb2 ‹_›).trans HX.out.symm), rfl⟩
  · go_ret; exact ⟨ret_str ((wb3 ‹_› (Or.inl (beq_iff_eq.2 ‹_›))).trans HX.out.symm), rfl⟩
  · go_ret; exact ⟨ret_str ((wb3 ‹_› ‹_›).trans HX.out.symm), rfl⟩
  · go_ret; exact ⟨ret_str ((wb4 (by assumption) (by assumption) (by assumption)).trans HX.out.symm), rfl⟩
  · go_ret; exact ⟨ret_str ((wb5 (by assumption) (by assumption) (by assumption)).trans HX.out.symm), rfl⟩

set_option maxHeartbeats 400000 in
theorem bytes2_any (a b : ByteArray) (h1 : a.size ≤ maxLen) (h2 : b.size ≤ maxLen) (w : World) :
    Calls Try.prog 5 #[.string a, .string b] w fun e w' => (∃ r, e = .returned (.bool r)) ∧ w' = w := by
  unfold maxLen at h1 h2
  go_enter Try.func5, Try.ntmps5
  go_wp2
  all_goals (go_ret; exact ⟨⟨_, rfl⟩, rfl⟩)

set_option maxHeartbeats 400000 in
theorem bytes3_any (a b c : ByteArray) (h1 : a.size ≤ maxLen) (h2 : b.size ≤ maxLen) (h3 : c.size ≤ maxLen) (w : World) :
    Calls Try.prog 7 #[.string a, .string b, .string c] w fun e w' => (∃ r, e = .returned (.bool r)) ∧ w' = w := by
  unfold maxLen at h1 h2 h3
  go_enter Try.func7, Try.ntmps7
  go_wp2
  all_goals (go_ret; exact ⟨⟨_, rfl⟩, rfl⟩)

/-! ### The plain law of 'withB': no Go in sight -/
theorem ba_ext {a b : ByteArray} (h : a.toList = b.toList) : a = b := by
  rw [ByteArray.toList_eq, ByteArray.toList_eq] at h
  obtain ⟨⟨x⟩⟩ := a
  obtain ⟨⟨y⟩⟩ := b
  simp at h
  rw [h]
theorem toList_iff (a : ByteArray) (l : List UInt8) : a.toList = l ↔ a = ⟨l.toArray⟩ :=
  ⟨fun h => ba_ext (by rw [h, ByteArray.toList_eq]), fun h => by rw [h, ByteArray.toList_eq]⟩
theorem isEmpty_iff (a : ByteArray) : a.toList.isEmpty = true ↔ a = ByteArray.empty := by
  rw [List.isEmpty_iff]
  exact toList_iff a []
theorem withB_eq (a b : ByteArray) : withB a b =
    if a = ⟨#[110, 111, 119, 97, 105, 116]⟩ ∨ b = ⟨#[110, 111, 119, 97, 105, 116]⟩ then ⟨#[110, 111, 119, 97, 105, 116]⟩
    else if a = ⟨#[119, 97, 105, 116]⟩ ∨ b = ⟨#[119, 97, 105, 116]⟩ then ⟨#[119, 97, 105, 116]⟩
    else if a = ByteArray.empty then b else a := by
  have h1 : ∀ x : ByteArray, x.toList = [110, 111, 119, 97, 105, 116] ↔ x = ⟨#[110, 111, 119, 97, 105, 116]⟩ := fun x => toList_iff x _
  have h2 : ∀ x : ByteArray, x.toList = [119, 97, 105, 116] ↔ x = ⟨#[119, 97, 105, 116]⟩ := fun x => toList_iff x _
  unfold withB
  simp only [h1, h2, isEmpty_iff]
end Go.Proofs.Qxb6629162a
