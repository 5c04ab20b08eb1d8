/-
  The slice of rules that came in: its reading opened.
-/
import Derived.Test.Qxb6629201aPlain
import Derived.ProofKit
import Derived.OpenShut
import Derived.SliceStrings
import Derived.Deep.Slices
namespace Go.Proofs.Qxb6629201a
open Go.ChangeShapes Go.WideShapes Go.ChangeAt Go.RowKit

theorem cells33 : Try.prog.cellsOf 33 = 1 := by kernel_rfl
theorem cells39 : Try.prog.cellsOf 39 = 2 := by kernel_rfl
theorem cells4 : Try.prog.cellsOf 4 = 1 := by kernel_rfl
theorem cells9 : Try.prog.cellsOf 9 = 1 := by kernel_rfl

theorem add_one_spot (a : Addr) (h : a.spot = none) (i : Nat) : a.add i = ⟨a.block, a.off + i, none⟩ := by
  obtain ⟨b, off, spot⟩ := a
  simp only at h
  subst h
  unfold Addr.add
  split <;> simp_all

theorem spot_add (a : Addr) (i : Nat) (h : (a.add i).spot = none) (hi : i = 0) : a.spot = none := by
  subst hi
  simpa [Addr.add] using h

/-- A slice of strings, opened. -/
theorem open_hosts {H : Type} {enc : TypeId × Value → H} {W : World} {fuel : Nat} {v : Value} {x : DataW H × List MemPlace} (h : DataW.trod enc Try.prog W 0 (fun _ => true) true fuel 33 [v] = some x) : ∃ hs, Hosts W v hs := by
  rcases open_strings Try.underlying33 Try.underlying9 cells9 h with ⟨hcs, _⟩ | ⟨a, len, cap, ss, hcs, _, hl, hm, hz, _, hcell, hws⟩
  · simp at hcs
    exact ⟨none, Or.inl ⟨rfl, hcs⟩⟩
  · simp at hcs hz
    have hlen : (ss.take len).length = len := by rw [List.length_take]; omega
    refine ⟨some (ss.take len), Or.inr ⟨ss.take len, a, cap, rfl, by rw [hlen]; exact hcs, ⟨by rw [hlen]; omega, fun s hs => hws s (List.mem_of_mem_take hs), ?_⟩⟩⟩
    by_cases h0 : len = 0
    · exact Or.inl (by rw [h0]; rfl)
    · have hsp : a.spot = none := spot_add a 0 (World.cell?_spot (hcell 0 (by omega))) rfl
      refine Or.inr ⟨a.block, a.off, ?_, fun k hk => ?_⟩
      · obtain ⟨b, off, spot⟩ := a
        simp only at hsp
        rw [hsp]
      · have hk' : k < ss.length := by rw [hlen] at hk; omega
        have := hcell k hk'
        rw [add_one_spot a hsp] at this
        rw [this]
        simp [List.getD, List.getElem?_eq_getElem hk']

theorem open_rules {H : Type} {enc : TypeId × Value → H} {W : World} {base : Nat} {v : Value} {d : DataW H} {p : List MemPlace} (hv : Value.okWide Try.prog W .any base 22 v)
    (h : DataW.Trod enc Try.prog W 0 (fun _ => true) true 22 v d p) : ∃ a len c rs, v = .slice a len c ∧ len ≤ c ∧ c ≤ maxLen ∧ len = rs.length ∧ In W.heap.size W a rs := by
  obtain ⟨a0, len, cap, rfl⟩ := okWide_slice Try.underlying22 hv
  obtain ⟨fuel, hf⟩ := h
  rcases Deep.open_slice Try.underlying22 hf with ⟨hcs, _⟩ | ⟨a, len', cap', m, n, D, Pl, hcs, _, hl, hm, hmm, _, hel⟩
  · simp [Value.cells] at hcs
    obtain ⟨rfl, rfl, rfl⟩ := hcs
    exact ⟨none, 0, 0, [], rfl, Nat.le_refl _, Nat.zero_le _, rfl, Or.inl rfl, Nat.zero_le _, by simp⟩
  · simp [Value.cells] at hcs
    obtain ⟨rfl, rfl, rfl⟩ := hcs
    simp only [if_true] at hmm
    subst hmm
    have hone : ∀ i, i < len → ∃ r : Bool × Value, W.cell? (a.add (i * 2)) = some (.bool r.1) ∧ W.cell? ((a.add (i * 2)).add 1) = some r.2 ∧ ∃ hs, Hosts W r.2 hs := by
      intro i hi
      obtain ⟨cs', hc, ht⟩ := hel i (by omega)
      rw [cells39] at hc
      obtain ⟨y0, y1, n', _, hlen, h0, h1⟩ := trod_struct2 Try.underlying39 ht
      rw [cells39] at hlen
      match cs', hlen with
      | [x0, x1], _ =>
        simp only [cells4, cells33, List.drop_zero, List.take_succ_cons, List.take_zero, List.drop_succ_cons] at h0 h1
        obtain ⟨b, hb, _⟩ := DataW.trod_bool Try.underlying4 h0
        simp at hb
        subst hb
        have hcell := (World.cells?_some hc).2.2
        obtain ⟨hs, hh⟩ := open_hosts h1
        exact ⟨(b, x1), by simpa [Addr.add] using hcell 0 (by omega), by simpa using hcell 1 (by omega), hs, hh⟩
    obtain ⟨f, hf⟩ := Deep.choose_lt hone
    have hlen : len = ((List.range len).map f).length := by simp
    refine ⟨some a, len, m, (List.range len).map f, rfl, hl, hm, hlen, ?_, by rw [← hlen]; omega, ?_⟩
    · by_cases h0 : len = 0
      · exact Or.inl (by rw [h0]; rfl)
      · have hsp : a.spot = none := spot_add a (0 * 2) (World.cell?_spot (hf 0 (by omega)).1) rfl
        refine Or.inr ⟨a.block, a.off, ?_, ?_, fun k hk => ?_⟩
        · obtain ⟨b, off, spot⟩ := a
          simp only at hsp
          rw [hsp]
        · have := block_lt_of_cell (hf 0 (by omega)).1
          rw [add_one_spot a hsp] at this
          exact this
        · have hk' : k < len := by rw [hlen]; exact hk
          obtain ⟨g1, g2, hs, g3⟩ := hf k hk'
          rw [add_one_spot a hsp] at g1 g2
          rw [add_one_spot _ rfl] at g2
          simp only [List.getElem_map, List.getElem_range]
          exact ⟨g1, g2, g3.form⟩
    · intro r hr
      rw [List.mem_map] at hr
      obtain ⟨k, hk, rfl⟩ := hr
      exact (hf k (List.mem_range.1 hk)).2.2

/-- Which rules hit: there is such a list. -/
theorem hits_of {w : World} (h : ByteArray) : ∀ rs : List (Bool × Value), (∀ r ∈ rs, ∃ hs, Hosts w r.2 hs) → ∃ bs, HitsAt w rs h bs
  | [], _ => ⟨[], rfl, fun k hk => by simp at hk⟩
  | r :: rs, hr => by
    obtain ⟨bs, hb⟩ := hits_of h rs (fun x hx => hr x (by simp [hx]))
    obtain ⟨hs, hh⟩ := hr r (by simp)
    have h1 : HitsAt w [r] h [r.1 && anyB hs h] := ⟨rfl, fun k hk => by
      have hk0 : k = 0 := by simp at hk; omega
      subst hk0
      exact ⟨hs, hh, rfl⟩⟩
    exact ⟨_, h1.append hb⟩
end Go.Proofs.Qxb6629201a
