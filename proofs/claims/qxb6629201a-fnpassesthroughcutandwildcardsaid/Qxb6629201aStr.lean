/-
  The walks of hostMatches and of what it calls of the library of strings.
-/
import Derived.Test.Qxb6629201aRows
import Derived.WalkKit
import Derived.WalkSpells
import Derived.WalkLawsBesides
namespace Go.Proofs.Qxb6629201a
open Go.RowKit

/-- 's' ends in 'p'. -/
def suf (s p : ByteArray) : Bool := decide (p.size ≤ s.size) && ((s.extract (s.size - p.size) s.size).toList == p.toList)
/-- 'e' begins with a star. -/
def star (e : ByteArray) : Bool := decide (1 ≤ e.size) && ((e.extract 0 1).toList == [42])
/-- hostMatches, plainly. -/
def hm (h e : ByteArray) : Bool := if star e = true then suf h (e.extract 1 e.size) else h.toList == e.toList

theorem ret_bool {a b : Bool} (h : a = b) : Ending.returned (.bool a) = .returned (.bool b) := by rw [h]

set_option maxHeartbeats 400000 in
theorem hasSuffix_any (s p : ByteArray) (hs : s.size ≤ maxLen) (hp : p.size ≤ maxLen) (w : World) :
    Calls Try.prog 17 #[.string s, .string p] w fun e w' => e = .returned (.bool (suf s p)) ∧ w' = w := by
  obtain ⟨r, hr⟩ : ∃ r, r = suf s p := ⟨_, rfl⟩
  rw [← hr]
  have HR : Hid (r = suf s p) := hr
  clear hr
  unfold maxLen at hs hp
  by_cases h : p.size ≤ s.size
  · go_enter Try.func17, Try.ntmps17
    go_wp2
    go_ret
    exact ⟨ret_bool (by rw [HR.out]; simp [suf, h]), rfl⟩
  · have hd : decide ((p.size : Int) ≤ (s.size : Int)) = false := by simp; omega
    go_enter Try.func17, Try.ntmps17
    go_wp2
    go_ret
    exact ⟨ret_bool (by rw [HR.out]; simp [suf, h]), rfl⟩

set_option maxHeartbeats 400000 in
theorem cutStar_yes (e : ByteArray) (he : e.size ≤ maxLen) (h1 : 1 ≤ e.size) (h2 : ((e.extract 0 1).toList == [42]) = true) (w : World) :
    Calls Try.prog 16 #[.string e, .string ⟨#[42]⟩] w fun r w' => r = .returned (.tuple #[.string (e.extract 1 e.size), .bool true]) ∧ w' = w := by
  unfold maxLen at he
  go_enter Try.func16, Try.ntmps16
  go_wp2
  go_ret2
  exact ⟨rfl, rfl⟩

set_option maxHeartbeats 400000 in
theorem cutStar_no (e : ByteArray) (he : e.size ≤ maxLen) (h1 : 1 ≤ e.size) (h2 : ((e.extract 0 1).toList == [42]) = false) (w : World) :
    Calls Try.prog 16 #[.string e, .string ⟨#[42]⟩] w fun r w' => r = .returned (.tuple #[.string e, .bool false]) ∧ w' = w := by
  unfold maxLen at he
  go_enter Try.func16, Try.ntmps16
  go_wp2
  go_ret2
  exact ⟨rfl, rfl⟩

set_option maxHeartbeats 400000 in
theorem cutStar_empty (e : ByteArray) (h1 : e.size = 0) (w : World) :
    Calls Try.prog 16 #[.string e, .string ⟨#[42]⟩] w fun r w' => r = .returned (.tuple #[.string e, .bool false]) ∧ w' = w := by
  have h2 : ¬ (1 : Int) ≤ (e.size : Int) := by omega
  have h3 : decide ((1 : Int) ≤ (e.size : Int)) = false := by simpa using h2
  clear h1
  go_enter Try.func16, Try.ntmps16
  go_wp2
  go_ret2
  exact ⟨rfl, rfl⟩

theorem cutStar_any (e : ByteArray) (he : e.size ≤ maxLen) (w : World) :
    Calls Try.prog 16 #[.string e, .string ⟨#[42]⟩] w fun r w' => r = .returned (.tuple #[.string (if star e = true then e.extract 1 e.size else e), .bool (star e)]) ∧ w' = w := by
  by_cases h1 : 1 ≤ e.size
  · cases h2 : ((e.extract 0 1).toList == [42])
    · have hs : star e = false := by simp [star, h2]
      rw [hs]
      exact cutStar_no e he h1 h2 w
    · have hs : star e = true := by simp only [star, h2, h1]; decide
      rw [hs]
      exact cutStar_yes e he h1 h2 w
  · have hs : star e = false := by simp [star, h1]
    rw [hs]
    exact cutStar_empty e (by omega) w

set_option maxHeartbeats 400000 in
theorem hostMatches_any (h e : ByteArray) (hh : h.size ≤ maxLen) (he : e.size ≤ maxLen) (w : World) :
    Calls Try.prog 13 #[.string h, .string e] w fun r w' => r = .returned (.bool (hm h e)) ∧ w' = w := by
  obtain ⟨s, hs⟩ : ∃ s, s = star e := ⟨_, rfl⟩
  obtain ⟨x, hx⟩ : ∃ x, x = hm h e := ⟨_, rfl⟩
  have hc := fun w => cutStar_any e he w
  rw [← hx]
  rw [← hs] at hc
  have HX : Hid (x = hm h e) := hx
  have HS : Hid (s = star e) := hs
  have HC : Hid _ := hc
  have HE : Hid (e.size ≤ maxLen) := he
  clear hx hs hc
  cases s
  · go_enter Try.func13, Try.ntmps13
    go_wp2_with fail
    refine (HC.out _).mono ?_
    rintro r w' ⟨rfl, hw⟩
    subst hw
    go_wp2_with fail
    go_ret
    exact ⟨ret_bool (by rw [HX.out, hm, if_neg (by rw [← HS.out]; decide)]), rfl⟩
  · go_enter Try.func13, Try.ntmps13
    go_wp2_with fail
    refine (HC.out _).mono ?_
    rintro r w' ⟨rfl, hw⟩
    subst hw
    go_wp2_with fail
    refine (hasSuffix_any h (e.extract 1 e.size) hh (by rw [ByteArray.size_extract]; have := HE.out; omega) _).mono ?_
    rintro r w' ⟨rfl, hw⟩
    subst hw
    go_wp2_with fail
    go_ret
    exact ⟨ret_bool (by rw [HX.out, hm, if_pos HS.out.symm]), rfl⟩
end Go.Proofs.Qxb6629201a
