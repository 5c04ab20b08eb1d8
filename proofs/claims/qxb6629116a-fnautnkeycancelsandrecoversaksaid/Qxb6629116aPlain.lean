/-
  The plain laws of the exclusive or on bytes. No Go in sight.
-/
import Derived.Laws.BitsAllLaws
namespace Go.Proofs.Qxb6629116a

/-- The exclusive or of two bytes under names of their own: a byte again; the key cancels on either side; it leaves a byte as it was exactly when the key is 0. -/
theorem xor_law (s a : Int) (h1 : 0 ≤ s) (h2 : s < 256) (h3 : 0 ≤ a) (h4 : a < 256) :
    ∃ c : Int, bits .xor .u8 s a = c ∧ 0 ≤ c ∧ c < 256 ∧ bits .xor .u8 c a = s ∧ bits .xor .u8 s c = a ∧ (c == s) = (a == 0) := by
  obtain ⟨S, rfl⟩ : ∃ S : Nat, s = S := ⟨s.toNat, by omega⟩
  obtain ⟨A, rfl⟩ : ∃ A : Nat, a = A := ⟨a.toNat, by omega⟩
  have hS : S < 256 := by omega
  have hA : A < 256 := by omega
  have hx : S ^^^ A < 2 ^ 8 := Nat.xor_lt_two_pow (by omega) (by omega)
  have hx' : S ^^^ A < 256 := by omega
  refine ⟨((S ^^^ A : Nat) : Int), u8_xor_nat S A hS hA, by omega, by omega, ?_, ?_, ?_⟩
  · rw [u8_xor_nat _ _ hx' hA, Nat.xor_assoc, Nat.xor_self, Nat.xor_zero]
  · rw [u8_xor_nat _ _ hS hx', ← Nat.xor_assoc, Nat.xor_self, Nat.zero_xor]
  · rw [Bool.eq_iff_iff]
    simp only [beq_iff_eq]
    constructor
    · intro h
      have h' : S ^^^ A = S := by omega
      have h'' : S ^^^ (S ^^^ A) = S ^^^ S := by rw [h']
      rw [← Nat.xor_assoc, Nat.xor_self, Nat.zero_xor] at h''
      omega
    · intro h
      have h' : A = 0 := by omega
      subst h'
      simp

theorem xor_cancel (s t a c d : Int) (h1 : 0 ≤ s) (h2 : s < 256) (h3 : 0 ≤ a) (h4 : a < 256) (h5 : 0 ≤ t) (h6 : t < 256) (hc : bits .xor .u8 s a = c) (hd : bits .xor .u8 t a = d) :
    bits .xor .u8 c d = bits .xor .u8 s t := by
  obtain ⟨S, rfl⟩ : ∃ S : Nat, s = S := ⟨s.toNat, by omega⟩
  obtain ⟨A, rfl⟩ : ∃ A : Nat, a = A := ⟨a.toNat, by omega⟩
  obtain ⟨T, rfl⟩ : ∃ T : Nat, t = T := ⟨t.toNat, by omega⟩
  have hS : S < 256 := by omega
  have hA : A < 256 := by omega
  have hT : T < 256 := by omega
  have hx : S ^^^ A < 2 ^ 8 := Nat.xor_lt_two_pow (by omega) (by omega)
  have hy : T ^^^ A < 2 ^ 8 := Nat.xor_lt_two_pow (by omega) (by omega)
  rw [u8_xor_nat S A hS hA] at hc
  rw [u8_xor_nat T A hT hA] at hd
  subst hc hd
  rw [u8_xor_nat _ _ (by omega) (by omega), u8_xor_nat S T hS hT]
  congr 1
  rw [Nat.xor_comm T A, Nat.xor_assoc, ← Nat.xor_assoc A A T, Nat.xor_self, Nat.zero_xor]
end Go.Proofs.Qxb6629116a
