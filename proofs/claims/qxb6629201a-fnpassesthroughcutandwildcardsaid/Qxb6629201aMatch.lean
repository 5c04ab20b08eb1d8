/-
  The walks of matchesAny's closure, of slices.IndexFunc and slices.ContainsFunc at it, and of matchesAny.
-/
import Derived.Test.Qxb6629201aStr
namespace Go.Proofs.Qxb6629201a
open Go.RowKit

/-- The strings 'l' lie at 'a'. -/
def Strs (w : World) (a : Option Addr) (l : List ByteArray) : Prop :=
  l.length ≤ maxLen ∧ (∀ s ∈ l, s.size ≤ maxLen) ∧ (l = [] ∨ ∃ b off, a = some ⟨b, off, none⟩ ∧ ∀ k (hk : k < l.length), w.cell? ⟨b, off + k, none⟩ = some (.string l[k]))

theorem Strs.on {w w' : World} {a : Option Addr} {l : List ByteArray} (h : Strs w a l) (hb : Below w.heap.size w w') : Strs w' a l := by
  refine ⟨h.1, h.2.1, ?_⟩
  rcases h.2.2 with h0 | ⟨b, off, e, hc⟩
  · exact Or.inl h0
  · refine Or.inr ⟨b, off, e, fun k hk => ?_⟩
    have := hc k hk
    rw [hb.cell (p := ⟨b, off + k, none⟩) (block_lt_of_cell this)]
    exact this

set_option maxHeartbeats 400000 in
theorem clos_any (h e : ByteArray) (hh : h.size ≤ maxLen) (he : e.size ≤ maxLen) (bm bv : Nat) (w : World)
    (cm : w.cell? ⟨bm, 0, none⟩ = some (.func (.func 13) #[] #[])) (cv : w.cell? ⟨bv, 0, none⟩ = some (.string h)) :
    Calls Try.prog 15 #[.string e, .pointer (some ⟨bm, 0, none⟩), .pointer (some ⟨bv, 0, none⟩)] w fun r w' => r = .returned (.bool (hm h e)) ∧ w' = w := by
  go_enter Try.func15, Try.ntmps15
  go_wp2_with fail
  refine (hostMatches_any h e hh he _).mono ?_
  rintro r w' ⟨rfl, hw⟩
  subst hw
  go_wp2_with fail
  go_ret
  exact ⟨rfl, rfl⟩

theorem any_take_succ (f : ByteArray → Bool) (l : List ByteArray) (k : Nat) (hk : k < l.length) : (l.take (k + 1)).any f = ((l.take k).any f || f l[k]) := by
  rw [List.take_succ_eq_append_getElem hk, List.any_append]
  simp

theorem any_hit (f : ByteArray → Bool) (l : List ByteArray) (k : Nat) (hk : k < l.length) (h : f l[k] = true) : l.any f = true :=
  List.any_eq_true.2 ⟨l[k], List.getElem_mem hk, h⟩

set_option maxHeartbeats 400000 in
theorem index_any (h : ByteArray) (hh : h.size ≤ maxLen) (a : Option Addr) (c : Nat) (l : List ByteArray) (n : Nat) (hn : n = l.length) (bm bv : Nat) (w : World)
    (cm : w.cell? ⟨bm, 0, none⟩ = some (.func (.func 13) #[] #[])) (cv : w.cell? ⟨bv, 0, none⟩ = some (.string h)) (hl : Strs w a l) :
    Calls Try.prog 18 #[.slice a n c, .func (.func 15) #[] #[.pointer (some ⟨bm, 0, none⟩), .pointer (some ⟨bv, 0, none⟩)]] w fun r w' => (∃ i : Int, r = .returned (.int .i64 i) ∧ decide (0 ≤ i) = l.any (hm h)) ∧ w' = w := by
  obtain ⟨hm1, hm2, hcell⟩ := hl
  have H2 : Hid (∀ s ∈ l, s.size ≤ maxLen) := hm2
  have HN : Hid (n = l.length) := hn
  have hm3 : n ≤ maxLen := by rw [hn]; exact hm1
  unfold maxLen at hm3
  have HC : Hid _ := hcell
  clear hm1 hm2 hcell hn
  go_enter Try.func18, Try.ntmps18
  go_wp2
  go_loop [8] (fun t => ∃ k : Nat, k ≤ n ∧ t = .int .i64 k ∧ Hid ((l.take k).any (hm h) = false)) (fun t => n - (intOf t).toNat)
  case atStart => exact ⟨0, Nat.zero_le _, rfl, (by simp : (l.take 0).any (hm h) = false)⟩
  case round =>
    obtain ⟨k, hk, rfl, hno⟩ := hrel
    by_cases hlt : k < n
    · have hkl : k < l.length := by rw [← HN.out]; exact hlt
      obtain ⟨b, off, rfl, hcells⟩ : ∃ b off, a = some ⟨b, off, none⟩ ∧ ∀ k (hk : k < l.length), w.cell? ⟨b, off + k, none⟩ = some (.string l[k]) := by
        rcases HC.out with h0 | h0
        · rw [h0] at hkl; simp at hkl
        · exact h0
      have hx := hcells k hkl
      obtain ⟨x, hxe⟩ : ∃ x, x = l[k] := ⟨_, rfl⟩
      rw [← hxe] at hx
      have hxs : Hid (x.size ≤ maxLen) := by rw [hxe]; exact H2.out _ (List.getElem_mem hkl)
      have HX : Hid (x = l[k]) := hxe
      clear hxe hcells HC
      go_wp2_with fail
      refine (clos_any h x hh hxs.out bm bv _ cm cv).mono ?_
      rintro r w' ⟨rfl, hw⟩
      subst hw
      cases hmx : hm h x
      · go_wp2_with fail
        go_round
        case rel => exact ⟨k + 1, by omega, by go_num, (by rw [any_take_succ _ _ _ hkl, hno.out, ← HX.out, hmx]; rfl : (l.take (k + 1)).any (hm h) = false)⟩
        case measure => simp [intOf]; omega
      · go_wp2_with fail
        go_ret
        exact ⟨⟨_, rfl, by rw [any_hit _ _ _ hkl (by rw [← HX.out]; exact hmx)]; simp⟩, rfl⟩
    · go_wp2_with fail
      go_ret
      refine ⟨⟨_, rfl, ?_⟩, rfl⟩
      have hk' : k = l.length := by rw [← HN.out]; omega
      have := hno.out
      rw [hk', List.take_length] at this
      rw [this]
      rfl

set_option maxHeartbeats 400000 in
theorem contains_any (h : ByteArray) (hh : h.size ≤ maxLen) (a : Option Addr) (c : Nat) (l : List ByteArray) (n : Nat) (hn : n = l.length) (bm bv : Nat) (w : World)
    (cm : w.cell? ⟨bm, 0, none⟩ = some (.func (.func 13) #[] #[])) (cv : w.cell? ⟨bv, 0, none⟩ = some (.string h)) (hl : Strs w a l) :
    Calls Try.prog 14 #[.slice a n c, .func (.func 15) #[] #[.pointer (some ⟨bm, 0, none⟩), .pointer (some ⟨bv, 0, none⟩)]] w fun r w' => r = .returned (.bool (l.any (hm h))) ∧ w' = w := by
  have HI := index_any h hh a c l n hn bm bv w cm cv hl
  have HH : Hid _ := HI
  clear HI cm cv hl hn
  go_enter Try.func14, Try.ntmps14
  go_wp2_with fail
  refine Calls.mono (Hid.out HH) ?_
  rintro r w' ⟨⟨i, rfl, hi⟩, hw⟩
  subst hw
  have HI : Hid (decide (0 ≤ i) = l.any (hm h)) := hi
  clear hi HH
  go_wp2_with fail
  go_ret
  exact ⟨ret_bool HI.out, rfl⟩

/-- What a slice of strings, nil or not, holds. -/
def Hosts (w : World) (v : Value) (hs : Option (List ByteArray)) : Prop :=
  (hs = none ∧ v = .slice none 0 0) ∨ ∃ l ad c, hs = some l ∧ v = .slice (some ad) l.length c ∧ Strs w (some ad) l
/-- matchesAny at hostMatches, plainly. -/
def anyB (hs : Option (List ByteArray)) (h : ByteArray) : Bool := match hs with | none => true | some l => l.any (hm h)

set_option maxHeartbeats 400000 in
theorem matches_nil (h : ByteArray) (w : World) :
    Calls Try.prog 12 #[.slice none 0 0, .string h, .func (.func 13) #[] #[]] w fun r w' => r = .returned (.bool true) ∧ Below w.heap.size w w' := by
  have hnil : ∀ v : World, (binOp .eql 33 (.slice none 0 0) (.slice none 0 0)).run Try.prog v = .ok (.bool true) v := fun v => Lib.run_eql_slice_nil (P := Try.prog) v 33 9 none 0 0 0 0 Try.underlying33
  go_enter Try.func12, Try.ntmps12
  go_wp2_with fail
  go_ret
  exact ⟨rfl, by repeat (first | exact Below.refl _ _ | apply Below.drew | refine Below.alloc ?_ (by first | omega | (simp; done) | (simp; omega)) _)⟩

set_option maxHeartbeats 400000 in
theorem matches_some (h : ByteArray) (hh : h.size ≤ maxLen) (ad : Addr) (c : Nat) (l : List ByteArray) (n : Nat) (hn : n = l.length) (w : World) (hl : Strs w (some ad) l) :
    Calls Try.prog 12 #[.slice (some ad) n c, .string h, .func (.func 13) #[] #[]] w fun r w' => r = .returned (.bool (l.any (hm h))) ∧ Below w.heap.size w w' := by
  have hnil : ∀ v : World, (binOp .eql 33 (.slice (some ad) n c) (.slice none 0 0)).run Try.prog v = .ok (.bool false) v := fun v => Lib.run_eql_slice_nil (P := Try.prog) v 33 9 (some ad) n c 0 0 Try.underlying33
  have HL : Hid (Strs w (some ad) l) := hl
  have HN : Hid (n = l.length) := hn
  clear hl hn
  go_enter Try.func12, Try.ntmps12
  go_wp2_with fail
  have hb : Below w.heap.size w ((w.alloc (.cells #[.string h] 9)).alloc (.cells #[.func (.func 13) #[] #[]] 43)) := ((Below.refl _ _).alloc (Nat.le_refl _) _).alloc (by simp) _
  refine (contains_any h hh (some ad) c l n HN.out (w.heap.size + 1) w.heap.size ((w.alloc (.cells #[.string h] 9)).alloc (.cells #[.func (.func 13) #[] #[]] 43)) ?_ ?_ (HL.out.on hb)).mono ?_
  · exact cell_of_row _ _ 0 _ 43 (0, 0) (heap_alloc2_new w _ _)
  · exact cell_of_row _ _ 0 _ 9 (0, 0) (heap_alloc2_old w _ _)
  rintro r w' ⟨rfl, hw⟩
  subst hw
  go_wp2_with fail
  go_ret
  exact ⟨rfl, hb⟩

theorem matches_any (h : ByteArray) (hh : h.size ≤ maxLen) (v : Value) (hs : Option (List ByteArray)) (w : World) (hv : Hosts w v hs) :
    Calls Try.prog 12 #[v, .string h, .func (.func 13) #[] #[]] w fun r w' => r = .returned (.bool (anyB hs h)) ∧ Below w.heap.size w w' := by
  rcases hv with ⟨rfl, rfl⟩ | ⟨l, ad, c, rfl, rfl, hl⟩
  · exact matches_nil h w
  · exact matches_some h hh ad c l l.length rfl w hl

theorem Hosts.on {w w' : World} {v : Value} {hs : Option (List ByteArray)} (h : Hosts w v hs) (hb : Below w.heap.size w w') : Hosts w' v hs := by
  rcases h with h0 | ⟨l, ad, c, e1, e2, hl⟩
  · exact Or.inl h0
  · exact Or.inr ⟨l, ad, c, e1, e2, hl.on hb⟩
end Go.Proofs.Qxb6629201a
