/-
  The plain laws on the first 'true' of a list: no Go in sight. And the walk of law A outside the bounds of j.
-/
import Derived.Test.Qxb6629201aLawA
namespace Go.Proofs.Qxb6629201a
open Go.RowKit

theorem first_lt {bs : List Bool} {i : Nat} (h : first bs = some i) : i < bs.length := by
  induction bs generalizing i with
  | nil => cases h
  | cons b bs ih =>
    cases b
    · simp only [first] at h
      cases hf : first bs with
      | none => rw [hf] at h; cases h
      | some k =>
        rw [hf] at h
        simp at h
        have := ih hf
        simp
        omega
    · simp [first] at h
      subst h
      simp

theorem first_split (bs : List Bool) (j : Nat) (hj : j ≤ bs.length) : first bs = match first (bs.take j) with | some i => some i | none => (first (bs.drop j)).map (· + j) := by
  have h := first_append (bs.take j) (bs.drop j)
  rw [List.take_append_drop, List.length_take, Nat.min_eq_left hj] at h
  exact h

theorem first_put (p : Bool) (bs : List Bool) (j : Nat) (hj : j ≤ bs.length) : first (bs.take j ++ [p] ++ bs.drop j) = match first (bs.take j) with | some i => some i | none => if p = true then some j else (first (bs.drop j)).map (· + (j + 1)) := by
  rw [List.append_assoc, first_append, List.length_take, Nat.min_eq_left hj]
  cases first (bs.take j) with
  | some i => rfl
  | none =>
    cases p
    · simp only [List.singleton_append, first]
      cases first (bs.drop j) with
      | none => rfl
      | some i => simp; omega
    · simp [first]

theorem cases_ins (bs : List Bool) (j : Nat) (hj : j ≤ bs.length) :
    (ansO bs = true ∧ 1 ≤ ansK bs ∧ ansK bs ≤ j ∧ ansO (bs.take j ++ [true] ++ bs.drop j) = true ∧ ansK (bs.take j ++ [true] ++ bs.drop j) = ansK bs ∧ ansO (bs.take j ++ [false] ++ bs.drop j) = true ∧ ansK (bs.take j ++ [false] ++ bs.drop j) = ansK bs) ∨
    (ansO bs = true ∧ j < ansK bs ∧ ansK bs ≤ bs.length ∧ ansO (bs.take j ++ [true] ++ bs.drop j) = true ∧ ansK (bs.take j ++ [true] ++ bs.drop j) = j + 1 ∧ ansO (bs.take j ++ [false] ++ bs.drop j) = true ∧ ansK (bs.take j ++ [false] ++ bs.drop j) = ansK bs + 1) ∨
    (ansO bs = false ∧ ansK bs = 0 ∧ ansO (bs.take j ++ [true] ++ bs.drop j) = true ∧ ansK (bs.take j ++ [true] ++ bs.drop j) = j + 1 ∧ ansO (bs.take j ++ [false] ++ bs.drop j) = false ∧ ansK (bs.take j ++ [false] ++ bs.drop j) = 0) := by
  have h0 := first_split bs j hj
  have h1 := first_put true bs j hj
  have h2 := first_put false bs j hj
  unfold ansO ansK
  rw [h0, h1, h2]
  cases ht : first (bs.take j) with
  | some i =>
    have := first_lt ht
    rw [List.length_take] at this
    left
    refine ⟨rfl, ?_, ?_, rfl, rfl, rfl, rfl⟩ <;> simp <;> omega
  | none =>
    cases hd : first (bs.drop j) with
    | some i =>
      have := first_lt hd
      rw [List.length_drop] at this
      right; left
      refine ⟨rfl, ?_, ?_, rfl, ?_, rfl, ?_⟩ <;> simp <;> omega
    | none =>
      right; right
      refine ⟨rfl, rfl, rfl, ?_, rfl, rfl⟩
      simp

set_option maxHeartbeats 1000000 in
set_option maxRecDepth 100000 in
theorem lawA_out (a : Option Addr) (c len : Nat) (rs : List (Bool × Value)) (hlen : len = rs.length) (j : Int) (hj : j < 0 ∨ (len : Int) < j) (hst : ByteArray) (hh : hst.size ≤ maxLen) (w : World) (hin : In w.heap.size w a rs) :
    Calls Try.prog 3 #[.slice a len c, .int .i64 j, .string hst] w fun e w' => e = .returned (.bool true) ∧ Below w.heap.size w w' := by
  have HIN : Hid (In w.heap.size w a rs) := hin
  have HLN : Hid (len = rs.length) := hlen
  have HH : Hid (hst.size ≤ maxLen) := hh
  clear hin hlen hh
  rcases hj with hj | hj
  · go_enter Try.func3, Try.ntmps3
    go_wp2_with fail
    refine (bytesA_any w.heap.size a c rs len HLN.out j hst HH.out _ HIN.out).mono ?_
    rintro e w' ⟨⟨r, rfl, hr⟩, hw⟩
    subst w'
    clear hr
    cases r
    · go_wp2_with fail
      go_ret
      exact ⟨rfl, Below.refl _ _⟩
    go_wp2_with fail
    refine (fits_any w.heap.size a c rs len HLN.out hst HH.out _ HIN.out).mono ?_
    rintro e w' ⟨⟨r, rfl, hr⟩, hw⟩
    subst w'
    clear hr
    cases r
    · go_wp2_with fail
      go_ret
      exact ⟨rfl, Below.refl _ _⟩
    go_wp2_with fail
    go_ret
    exact ⟨rfl, Below.refl _ _⟩
  · have hj' : ¬ j < 0 := by omega
    go_enter Try.func3, Try.ntmps3
    go_wp2_with fail
    refine (bytesA_any w.heap.size a c rs len HLN.out j hst HH.out _ HIN.out).mono ?_
    rintro e w' ⟨⟨r, rfl, hr⟩, hw⟩
    subst w'
    clear hr
    cases r
    · go_wp2_with fail
      go_ret
      exact ⟨rfl, Below.refl _ _⟩
    go_wp2_with fail
    refine (fits_any w.heap.size a c rs len HLN.out hst HH.out _ HIN.out).mono ?_
    rintro e w' ⟨⟨r, rfl, hr⟩, hw⟩
    subst w'
    clear hr
    cases r
    · go_wp2_with fail
      go_ret
      exact ⟨rfl, Below.refl _ _⟩
    go_wp2_with fail
    go_ret
    exact ⟨rfl, Below.refl _ _⟩

theorem lawA_any (a : Option Addr) (c len : Nat) (hlc : len ≤ c) (hcm : c ≤ maxLen) (rs : List (Bool × Value)) (hlen : len = rs.length) (j : Int) (hst : ByteArray) (hh : hst.size ≤ maxLen) (bs : List Bool) (w : World)
    (hin : In w.heap.size w a rs) (hb : HitsAt w rs hst bs) :
    Calls Try.prog 3 #[.slice a len c, .int .i64 j, .string hst] w fun e w' => e = .returned (.bool true) ∧ Below w.heap.size w w' := by
  by_cases hj : j < 0 ∨ (len : Int) < j
  · exact lawA_out a c len rs hlen j hj hst hh w hin
  · obtain ⟨k, rfl⟩ : ∃ k : Nat, j = k := ⟨j.toNat, by omega⟩
    have hk : k ≤ len := by omega
    have hbl : bs.length = len := by rw [hb.1, hlen]
    have := cases_ins bs k (by omega)
    rw [hbl] at this
    exact lawA_walk a c len hlc hcm rs hlen k hk hst hh bs w hin hb _ _ _ _ _ _ rfl rfl rfl rfl rfl rfl this
end Go.Proofs.Qxb6629201a
