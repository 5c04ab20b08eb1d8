/-
  An array of bytes that came in by value: its value written out.
-/
import Derived.Test.Qxb6629116aEq
import Derived.ProofKit
import Derived.OpenShut
namespace Go.Proofs.Qxb6629116a
open Go.ChangeShapes Go.WideShapes Go.ChangeAt Go.RowKit

theorem open_u8s {H : Type} {enc : TypeId × Value → H} {P : Program} {W : World} {base : Nat} {t e : TypeId} {n : Nat} {v : Value} {d : DataW H} {p : List MemPlace}
    (hu : P.underlying t = some (.array n e)) (he : P.underlying e = some (.int .u8)) (hce : P.cellsOf e = 1) (hct : P.cellsOf t = n) (hv : Value.okWide P W .any base t v)
    (h : DataW.Trod enc P W 0 (fun _ => true) true t v d p) : ∃ xs : List Int, v = .agg (u8s xs) ∧ xs.length = n ∧ ∀ x ∈ xs, 0 ≤ x ∧ x < 256 := by
  obtain ⟨cs, rfl, hsz, _⟩ : ∃ cs, v = .agg cs ∧ cs.size = P.cellsOf t ∧ Row.okWide P W .any base t cs := by
    simpa [Value.okWide, hu] using hv
  rw [hct] at hsz
  obtain ⟨fuel, hf⟩ := h
  obtain ⟨ys, m, _, _, hl, hn, hel⟩ := DataW.trod_array hu hf
  have hcell : ∀ i, i < n → ∃ x : Int, cs[i]? = some (.int .u8 x) ∧ 0 ≤ x ∧ x < 256 := by
    intro i hi
    have h1 := hel i hi
    rw [hce, List.getElem?_eq_getElem (by omega : i < ys.length)] at h1
    obtain ⟨x, e1, _, wx⟩ := DataW.trod_int he h1
    have hb := bounds_u8 wx
    refine ⟨x, ?_, hb.1, by omega⟩
    have h2 : (List.take 1 (List.drop (i * 1) (Value.agg cs).cells.toList))[0]? = some (.int .u8 x) := by rw [e1]; rfl
    simpa [Value.cells] using h2
  refine ⟨cs.toList.map fun v => match v with | .int _ x => x | _ => 0, ?_, by simpa using hsz, ?_⟩
  · congr 1
    unfold u8s
    apply Array.ext
    · simp
    · intro i h1 h2
      obtain ⟨x, hx, _⟩ := hcell i (by omega)
      rw [Array.getElem?_eq_some_iff] at hx
      obtain ⟨_, hx⟩ := hx
      simp [hx]
  · intro x hx
    rw [List.mem_map] at hx
    obtain ⟨v, hv, rfl⟩ := hx
    obtain ⟨i, hi, rfl⟩ := List.getElem_of_mem hv
    obtain ⟨x, hx, h1, h2⟩ := hcell i (by simpa [← hsz] using hi)
    rw [Array.getElem?_eq_some_iff] at hx
    obtain ⟨_, hx⟩ := hx
    simp only [Array.getElem_toList, hx]
    exact ⟨h1, h2⟩

theorem list2 (l : List Int) (h : l.length = 2) : ∃ a b, l = [a, b] := by
  match l, h with
  | [a, b], _ => exact ⟨a, b, rfl⟩
theorem list6 (l : List Int) (h : l.length = 6) : ∃ a b c d e f, l = [a, b, c, d, e, f] := by
  match l, h with
  | [a, b, c, d, e, f], _ => exact ⟨a, b, c, d, e, f, rfl⟩
theorem list8 (l : List Int) (h : l.length = 8) : ∃ a b c d e f g k, l = [a, b, c, d, e, f, g, k] := by
  match l, h with
  | [a, b, c, d, e, f, g, k], _ => exact ⟨a, b, c, d, e, f, g, k, rfl⟩
end Go.Proofs.Qxb6629116a
