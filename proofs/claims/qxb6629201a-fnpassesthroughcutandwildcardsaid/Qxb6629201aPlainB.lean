/-
  The law FnPassesThroughCutAndWildcard: the plain cases, and the walk outside the bounds.
-/
import Derived.Test.Qxb6629201aLawB
namespace Go.Proofs.Qxb6629201a
open Go.RowKit

theorem cases_cut (bs : List Bool) (j : Nat) (hj : j ≤ bs.length) :
    (ansO (bs.take j) = true ∧ 1 ≤ ansK (bs.take j) ∧ ansK (bs.take j) ≤ j ∧ ansO (bs.drop j) = true ∧ 1 ≤ ansK (bs.drop j) ∧ ansK (bs.drop j) ≤ bs.length - j ∧ ansO bs = true ∧ ansK bs = ansK (bs.take j) ∧ ansO (bs.take j ++ [true] ++ bs.drop j) = true ∧ ansK (bs.take j ++ [true] ++ bs.drop j) = ansK (bs.take j)) ∨
    (ansO (bs.take j) = true ∧ 1 ≤ ansK (bs.take j) ∧ ansK (bs.take j) ≤ j ∧ ansO (bs.drop j) = false ∧ ansO bs = true ∧ ansK bs = ansK (bs.take j) ∧ ansO (bs.take j ++ [true] ++ bs.drop j) = true ∧ ansK (bs.take j ++ [true] ++ bs.drop j) = ansK (bs.take j)) ∨
    (ansO (bs.take j) = false ∧ ansO (bs.drop j) = true ∧ 1 ≤ ansK (bs.drop j) ∧ ansK (bs.drop j) ≤ bs.length - j ∧ ansO bs = true ∧ ansK bs = j + ansK (bs.drop j) ∧ ansO (bs.take j ++ [true] ++ bs.drop j) = true ∧ ansK (bs.take j ++ [true] ++ bs.drop j) = j + 1) ∨
    (ansO (bs.take j) = false ∧ ansO (bs.drop j) = false ∧ ansO bs = false ∧ ansK bs = 0 ∧ ansO (bs.take j ++ [true] ++ bs.drop j) = true ∧ ansK (bs.take j ++ [true] ++ bs.drop j) = j + 1) := by
  have h0 := first_split bs j hj
  have h1 := first_put true bs j hj
  unfold ansO ansK
  rw [h0, h1]
  cases ht : first (bs.take j) with
  | some i =>
    have hi := first_lt ht
    rw [List.length_take] at hi
    cases hd : first (bs.drop j) with
    | some k =>
      have hk := first_lt hd
      rw [List.length_drop] at hk
      left
      refine ⟨rfl, ?_, ?_, rfl, ?_, ?_, rfl, rfl, rfl, rfl⟩ <;> simp <;> omega
    | none =>
      right; left
      refine ⟨rfl, ?_, ?_, rfl, rfl, rfl, rfl, rfl⟩ <;> simp <;> omega
  | none =>
    cases hd : first (bs.drop j) with
    | some k =>
      have hk := first_lt hd
      rw [List.length_drop] at hk
      right; right; left
      refine ⟨rfl, rfl, ?_, ?_, rfl, ?_, rfl, ?_⟩ <;> simp <;> omega
    | none =>
      right; right; right
      refine ⟨rfl, rfl, rfl, rfl, rfl, ?_⟩
      simp

set_option maxHeartbeats 2000000 in
set_option maxRecDepth 100000 in
theorem lawB_out (a : Option Addr) (c len : Nat) (rs : List (Bool × Value)) (hlen : len = rs.length) (j s : Int) (hst : ByteArray) (hout : j < 0 ∨ (¬ j < 0 ∧ (len : Int) < j) ∨ (0 ≤ j ∧ j ≤ len ∧ s < 0) ∨ (0 ≤ j ∧ j ≤ len ∧ ¬ s < 0 ∧ (hst.size : Int) < s)) (hh : hst.size ≤ maxLen) (w : World) (hin : In w.heap.size w a rs) :
    Calls Try.prog 4 #[.slice a len c, .int .i64 j, .int .i64 s, .string hst] w fun e w' => e = .returned (.bool true) ∧ Below w.heap.size w w' := by
  have HIN : Hid (In w.heap.size w a rs) := hin
  have HLN : Hid (len = rs.length) := hlen
  have HH : Hid (hst.size ≤ maxLen) := hh
  clear hin hlen hh
  rcases hout with q1 | ⟨q1, q2⟩ | ⟨q1, q2, q3⟩ | ⟨q1, q2, q3, q4⟩
  · go_enter Try.func4, Try.ntmps4
    go_wp2_with fail
    refine (bytesB_any w.heap.size a c rs len HLN.out j s hst HH.out _ HIN.out).mono ?_
    rintro e w' ⟨⟨r, rfl, hr⟩, hw⟩
    subst w'
    clear hr
    cases r
    · go_wp2_with fail
      go_ret
      exact ⟨rfl, Below.refl _ _⟩
    go_wp2_with fail
    refine (fits_any w.heap.size a c rs len HLN.out hst HH.out _ HIN.out).mono ?_
    rintro e w' ⟨⟨r, rfl, hr⟩, hw⟩
    subst w'
    clear hr
    cases r
    · go_wp2_with fail
      go_ret
      exact ⟨rfl, Below.refl _ _⟩
    go_wp2_with fail
    go_ret
    exact ⟨rfl, Below.refl _ _⟩
  · go_enter Try.func4, Try.ntmps4
    go_wp2_with fail
    refine (bytesB_any w.heap.size a c rs len HLN.out j s hst HH.out _ HIN.out).mono ?_
    rintro e w' ⟨⟨r, rfl, hr⟩, hw⟩
    subst w'
    clear hr
    cases r
    · go_wp2_with fail
      go_ret
      exact ⟨rfl, Below.refl _ _⟩
    go_wp2_with fail
    refine (fits_any w.heap.size a c rs len HLN.out hst HH.out _ HIN.out).mono ?_
    rintro e w' ⟨⟨r, rfl, hr⟩, hw⟩
    subst w'
    clear hr
    cases r
    · go_wp2_with fail
      go_ret
      exact ⟨rfl, Below.refl _ _⟩
    go_wp2_with fail
    go_ret
    exact ⟨rfl, Below.refl _ _⟩
  · go_enter Try.func4, Try.ntmps4
    go_wp2_with fail
    refine (bytesB_any w.heap.size a c rs len HLN.out j s hst HH.out _ HIN.out).mono ?_
    rintro e w' ⟨⟨r, rfl, hr⟩, hw⟩
    subst w'
    clear hr
    cases r
    · go_wp2_with fail
      go_ret
      exact ⟨rfl, Below.refl _ _⟩
    go_wp2_with fail
    refine (fits_any w.heap.size a c rs len HLN.out hst HH.out _ HIN.out).mono ?_
    rintro e w' ⟨⟨r, rfl, hr⟩, hw⟩
    subst w'
    clear hr
    cases r
    · go_wp2_with fail
      go_ret
      exact ⟨rfl, Below.refl _ _⟩
    go_wp2_with fail
    go_ret
    exact ⟨rfl, Below.refl _ _⟩
  · go_enter Try.func4, Try.ntmps4
    go_wp2_with fail
    refine (bytesB_any w.heap.size a c rs len HLN.out j s hst HH.out _ HIN.out).mono ?_
    rintro e w' ⟨⟨r, rfl, hr⟩, hw⟩
    subst w'
    clear hr
    cases r
    · go_wp2_with fail
      go_ret
      exact ⟨rfl, Below.refl _ _⟩
    go_wp2_with fail
    refine (fits_any w.heap.size a c rs len HLN.out hst HH.out _ HIN.out).mono ?_
    rintro e w' ⟨⟨r, rfl, hr⟩, hw⟩
    subst w'
    clear hr
    cases r
    · go_wp2_with fail
      go_ret
      exact ⟨rfl, Below.refl _ _⟩
    go_wp2_with fail
    go_ret
    exact ⟨rfl, Below.refl _ _⟩

set_option maxHeartbeats 400000 in
theorem lawB_big (a : Option Addr) (c len : Nat) (rs : List (Bool × Value)) (hlen : len = rs.length) (j s : Int) (hst : ByteArray) (hbig : 1048576 < hst.size) (hh : hst.size ≤ maxLen) (w : World) (hin : In w.heap.size w a rs) :
    Calls Try.prog 4 #[.slice a len c, .int .i64 j, .int .i64 s, .string hst] w fun e w' => e = .returned (.bool true) ∧ Below w.heap.size w w' := by
  have HIN : Hid (In w.heap.size w a rs) := hin
  have HLN : Hid (len = rs.length) := hlen
  have HH : Hid (hst.size ≤ maxLen) := hh
  clear hin hlen hh
  go_enter Try.func4, Try.ntmps4
  go_wp2_with fail
  refine (bytesB_any w.heap.size a c rs len HLN.out j s hst HH.out _ HIN.out).mono ?_
  rintro e w' ⟨⟨r, rfl, hr⟩, hw⟩
  subst w'
  cases r
  · clear hr
    go_wp2_with fail
    go_ret
    exact ⟨rfl, Below.refl _ _⟩
  · have h1 : hst.size ≤ 1048576 := (hr rfl).2
    omega

theorem lawB_any (a : Option Addr) (c len : Nat) (hlc : len ≤ c) (hcm : c ≤ maxLen) (rs : List (Bool × Value)) (hlen : len = rs.length) (j s : Int) (hst : ByteArray) (hh : hst.size ≤ maxLen) (bs : List Bool) (w : World)
    (hin : In w.heap.size w a rs) (hb : HitsAt w rs hst bs) :
    Calls Try.prog 4 #[.slice a len c, .int .i64 j, .int .i64 s, .string hst] w fun e w' => e = .returned (.bool true) ∧ Below w.heap.size w w' := by
  by_cases hout : j < 0 ∨ (¬ j < 0 ∧ (len : Int) < j) ∨ (0 ≤ j ∧ j ≤ len ∧ s < 0) ∨ (0 ≤ j ∧ j ≤ len ∧ ¬ s < 0 ∧ (hst.size : Int) < s)
  · exact lawB_out a c len rs hlen j s hst hout hh w hin
  · obtain ⟨k, rfl⟩ : ∃ k : Nat, j = k := ⟨j.toNat, by omega⟩
    obtain ⟨t, rfl⟩ : ∃ t : Nat, s = t := ⟨s.toNat, by omega⟩
    have hk : k ≤ len := by omega
    have ht : t ≤ hst.size := by omega
    have hbl : bs.length = len := by rw [hb.1, hlen]
    have hcs := cases_cut bs k (by omega)
    rw [hbl] at hcs
    obtain ⟨ex, hex⟩ : ∃ ex, (⟨#[42]⟩ : ByteArray) ++ hst.extract t hst.size = ex := ⟨_, rfl⟩
    have hw := hm_wild hst t ht ex hex
    by_cases hbig : ex.size ≤ maxLen
    · exact lawB_walk a c len hlc hcm rs hlen k hk t hst ht hh bs w ex hex ⟨hw.1, hbig⟩ hin hb _ _ _ _ _ _ _ _ rfl rfl rfl rfl rfl rfl rfl rfl hcs
    · exact lawB_big a c len rs hlen k t hst (by have := hw.2; unfold maxLen at hbig; omega) hh w hin

end Go.Proofs.Qxb6629201a
