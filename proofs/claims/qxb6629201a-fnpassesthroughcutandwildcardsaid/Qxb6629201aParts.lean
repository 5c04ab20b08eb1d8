/-
  What the two laws' walks want of worlds and lists: lemmas outside the walk.
-/
import Derived.Test.Qxb6629201aGuard
namespace Go.Proofs.Qxb6629201a
open Go.RowKit

theorem RulesAt.on {w w' : World} {a : Option Addr} {rs : List (Bool × Value)} (h : RulesAt w.heap.size w a rs) (hb : Below w.heap.size w w') : RulesAt w.heap.size w' a rs := by
  rcases h with h0 | ⟨b, off, e, hlt, hc⟩
  · exact Or.inl h0
  · refine Or.inr ⟨b, off, e, hlt, fun k hk => ?_⟩
    obtain ⟨c1, c2, c3⟩ := hc k hk
    exact ⟨by rw [hb.cell (p := ⟨b, off + k * 2, none⟩) hlt]; exact c1, by rw [hb.cell (p := ⟨b, off + k * 2 + 1, none⟩) hlt]; exact c2, c3⟩

theorem RulesAt.take {base : Nat} {w : World} {a : Option Addr} {rs : List (Bool × Value)} (h : RulesAt base w a rs) (j : Nat) : RulesAt base w a (rs.take j) := by
  rcases h with h0 | ⟨b, off, e, hlt, hc⟩
  · exact Or.inl (by rw [h0]; simp)
  · refine Or.inr ⟨b, off, e, hlt, fun k hk => ?_⟩
    have hk' : k < rs.length := by simp at hk; omega
    simpa using hc k hk'

theorem RulesAt.drop {base : Nat} {w : World} {b off : Nat} {rs : List (Bool × Value)} (h : RulesAt base w (some ⟨b, off, none⟩) rs) (j : Nat) : RulesAt base w (some ⟨b, off + j * 2, none⟩) (rs.drop j) := by
  rcases h with h0 | ⟨b', off', e, hlt, hc⟩
  · exact Or.inl (by rw [h0]; simp)
  · cases e
    refine Or.inr ⟨b, off + j * 2, rfl, hlt, fun k hk => ?_⟩
    have hk' : j + k < rs.length := by simp at hk; omega
    have := hc (j + k) hk'
    have e1 : off + (j + k) * 2 = off + j * 2 + k * 2 := by omega
    rw [e1] at this
    simpa using this

theorem HitsAt.on {w w' : World} {rs : List (Bool × Value)} {h : ByteArray} {bs : List Bool} (hh : HitsAt w rs h bs) (hb : Below w.heap.size w w') : HitsAt w' rs h bs :=
  ⟨hh.1, fun k hk => by obtain ⟨hs, h1, h2⟩ := hh.2 k hk; exact ⟨hs, h1.on hb, h2⟩⟩

theorem HitsAt.append {w : World} {rs ss : List (Bool × Value)} {h : ByteArray} {bs cs : List Bool} (h1 : HitsAt w rs h bs) (h2 : HitsAt w ss h cs) : HitsAt w (rs ++ ss) h (bs ++ cs) := by
  refine ⟨by simp [h1.1, h2.1], fun k hk => ?_⟩
  by_cases hlt : k < rs.length
  · obtain ⟨hs, a1, a2⟩ := h1.2 k hlt
    refine ⟨hs, ?_, ?_⟩
    · rw [List.getElem_append_left hlt]; exact a1
    · rw [List.getElem?_append_left (by rw [h1.1]; exact hlt), List.getElem_append_left hlt]; exact a2
  · have hk2 : k - rs.length < ss.length := by simp at hk; omega
    obtain ⟨hs, a1, a2⟩ := h2.2 _ hk2
    refine ⟨hs, ?_, ?_⟩
    · rw [List.getElem_append_right (by omega)]; exact a1
    · rw [List.getElem?_append_right (by rw [h1.1]; omega), h1.1, List.getElem_append_right (by omega)]; exact a2

theorem HitsAt.take {w : World} {rs : List (Bool × Value)} {h : ByteArray} {bs : List Bool} (hh : HitsAt w rs h bs) (j : Nat) : HitsAt w (rs.take j) h (bs.take j) := by
  refine ⟨by simp [hh.1], fun k hk => ?_⟩
  have hk' : k < rs.length := by simp at hk; omega
  have hkj : k < j := by simp at hk; omega
  obtain ⟨hs, a1, a2⟩ := hh.2 k hk'
  exact ⟨hs, by simpa using a1, by rw [List.getElem?_take, if_pos hkj]; simpa using a2⟩

theorem HitsAt.drop {w : World} {rs : List (Bool × Value)} {h : ByteArray} {bs : List Bool} (hh : HitsAt w rs h bs) (j : Nat) : HitsAt w (rs.drop j) h (bs.drop j) := by
  refine ⟨by simp [hh.1], fun k hk => ?_⟩
  have hk' : j + k < rs.length := by simp at hk; omega
  obtain ⟨hs, a1, a2⟩ := hh.2 (j + k) hk'
  exact ⟨hs, by simpa using a1, by rw [List.getElem?_drop]; simpa using a2⟩

/-- One rule of the law's own: its one host lies in a block that is known whole. -/
theorem HitsAt.one {w : World} {h e : ByteArray} (p : Bool) (B : Nat) (he : e.size ≤ maxLen) (hb : w.heap[B]? = some (.cells #[.string e] 9 (0, 0))) : HitsAt w [(p, .slice (some ⟨B, 0, none⟩) 1 1)] h [p && hm h e] := by
  refine ⟨rfl, fun k hk => ?_⟩
  have hk0 : k = 0 := by simp at hk; omega
  subst hk0
  refine ⟨some [e], Or.inr ⟨[e], ⟨B, 0, none⟩, 1, rfl, rfl, ⟨by simp [maxLen], by simpa using he, Or.inr ⟨B, 0, rfl, fun k hk => ?_⟩⟩⟩, by simp [anyB]⟩
  have hk0 : k = 0 := by simp at hk; omega
  subst hk0
  exact cell_of_row w B 0 _ 9 (0, 0) hb

/-- A host matches itself. -/
theorem hm_self (h : ByteArray) : hm h h = true := by
  unfold hm
  split
  · rename_i hs
    have h1 : 1 ≤ h.size := by
      simp only [star, Bool.and_eq_true, decide_eq_true_eq] at hs
      exact hs.1
    have e1 : (h.extract 1 h.size).size = h.size - 1 := by rw [ByteArray.size_extract]; omega
    unfold suf
    rw [e1, show h.size - (h.size - 1) = 1 by omega]
    simp
  · simp

theorem append_form {w : World} {base n : Nat} {v : Value} {xs : List Value} (h : w.ownsRow base 35 8 v n xs) : ∃ aa cp, v = .slice aa n cp := by
  rcases h.2 with ⟨h1, h2⟩ | ⟨g, cap, cur, h1, _⟩
  · exact ⟨none, 0, by rw [h1, h2]⟩
  · exact ⟨_, cap, h1⟩

/-- ptAppend, its result written out. -/
theorem append_as (base : Nat) (v : Value) (n : Nat) (ds : List (Bool × Value)) (a : Option Addr) (c : Nat) (rs : List (Bool × Value)) (len : Nat) (hlen : len = rs.length) (w : World)
    (hown : w.ownsRow base 35 8 v n (flat ds)) (hbase : base ≤ w.heap.size) (hr : RulesAt base w a rs) (hsz : n + len ≤ 4194304) :
    Calls Try.prog 7 #[v, .slice a len c] w fun e w' => ∃ aa cp, e = .returned (.slice aa (n + len) cp) ∧ w'.ownsRow base 35 8 (.slice aa (n + len) cp) (n + len) (flat (ds ++ rs)) ∧ w.grownBy w' v.ownBlock ∧ OwnOf w v (.slice aa (n + len) cp) := by
  refine (append_any base v n ds a c rs len hlen w hown hbase hr hsz).mono ?_
  rintro e w' ⟨v', rfl, h1, h2, h3⟩
  obtain ⟨aa, cp, rfl⟩ := append_form h1
  exact ⟨aa, cp, rfl, h1, h2, h3⟩

theorem row_new (V : World) (o : Obj) (b : Nat) (e : b = V.heap.size) : (V.alloc o).heap[b]? = some o := by
  subst e; exact heap_alloc_new _ _

/-- Behind 'append(dst, ZZnewRule(p, []string{e}))': what stands. -/
theorem mid_facts {w w3 w4 : World} {a3 : Option Addr} {c3 j g cap : Nat} {ds : List (Bool × Value)} {p : Bool} {e : ByteArray} {o1 o2 : Obj} (B3 : Below w.heap.size w w3) (W3 : w3.ownsRow w.heap.size 35 8 (.slice a3 j c3) j (flat ds))
    (hown : w4.ownsRow w.heap.size 35 8 (.slice (some ⟨g, 0, none⟩) (j + 1) cap) (j + 1) (flat ds ++ [.string ⟨#[]⟩, .int .i64 0, .int .i64 0, .slice none 0 0, .slice none 0 0, .slice (some ⟨w3.heap.size, 0, none⟩) 1 1, .slice none 0 0, .bool p]))
    (hgrow : (((w3.alloc (.cells #[.string e] 9)).alloc o1).alloc o2).grownBy w4 (Value.slice a3 j c3).ownBlock) (hat : (Value.slice a3 j c3).ownBlock = some g ∨ g = w3.heap.size + 1 + 1 + 1) :
    Below w.heap.size w w4 ∧ w4.ownsRow w.heap.size 35 8 (.slice (some ⟨g, 0, none⟩) (j + 1) cap) (j + 1) (flat (ds ++ [(p, .slice (some ⟨w3.heap.size, 0, none⟩) 1 1)])) ∧
      w4.heap[w3.heap.size]? = some (.cells #[.string e] 9 (0, 0)) ∧ g ≠ w3.heap.size := by
  have hs3 := B3.size
  have hl := W3.lt
  refine ⟨?_, ?_, ?_, ?_⟩
  · exact Below.grown (((B3.alloc hs3 _).alloc (by simp; omega) _).alloc (by simp; omega) _) hgrow (by simp; omega) (fun k hk => (hl k hk).1)
  · rw [flat_snoc]; exact hown
  · rw [hgrow.block _ (by simp; omega) (fun e => by have := (hl _ e.symm).2; omega)]
    rw [Below.heap_alloc _ _ _ (by simp; omega), Below.heap_alloc _ _ _ (by simp), heap_alloc_new]
  · rcases hat with hat | hat
    · have := (hl g hat).2; omega
    · omega

/-- Behind 'ptAppend(dst, rules[j:])' on that. -/
theorem end_facts {w w4 w5 : World} {n cap g B : Nat} {xs : List Value} {o : Obj} (B4 : Below w.heap.size w w4) (W4 : w4.ownsRow w.heap.size 35 8 (.slice (some ⟨g, 0, none⟩) n cap) n xs) (hB : w4.heap[B]? = some o) (hne : g ≠ B)
    (hg : w4.grownBy w5 (Value.slice (some ⟨g, 0, none⟩) n cap).ownBlock) : Below w.heap.size w w5 ∧ w5.heap[B]? = some o := by
  refine ⟨B4.grown hg B4.size (fun k hk => (W4.lt k hk).1), ?_⟩
  rw [hg.block B (Array.getElem?_eq_some_iff.1 hB).1 (fun e => by cases e; exact hne rfl), hB]

/-- 'rules[j:]': where it lies. -/
theorem drop_at {base : Nat} {w : World} {a : Option Addr} {rs : List (Bool × Value)} (h : RulesAt base w a rs) (c j : Nat) (hc : rs.length ≤ c) (aj : Option Addr) (haj : (if c = j then a else Option.map (fun x => x.add (j * 2)) a) = aj) :
    RulesAt base w aj (rs.drop j) := by
  by_cases hcj : c = j
  · exact Or.inl (List.drop_eq_nil_of_le (by omega))
  · rw [if_neg hcj] at haj
    have h' := h
    rcases h with h0 | ⟨b, off, e, _⟩
    · exact Or.inl (by rw [h0]; simp)
    · rw [e] at haj h'
      have : aj = some ⟨b, off + j * 2, none⟩ := by
        rw [← haj]
        simp only [Option.map_some]
        congr 1
        unfold Addr.add
        split <;> simp_all
      rw [this]
      exact h'.drop j
end Go.Proofs.Qxb6629201a
