/-
  The walk of PassesThrough.
-/
import Derived.Test.Qxb6629201aRule
namespace Go.Proofs.Qxb6629201a
open Go.RowKit

/-- The place of the first 'true'. -/
def first : List Bool → Option Nat
  | [] => none
  | true :: _ => some 0
  | false :: bs => (first bs).map (· + 1)
def ansK (bs : List Bool) : Int := match first bs with | some i => (i : Int) + 1 | none => 0
def ansO (bs : List Bool) : Bool := (first bs).isSome

theorem first_append (cs bs : List Bool) : first (cs ++ bs) = match first cs with | some i => some i | none => (first bs).map (· + cs.length) := by
  induction cs with
  | nil => simp [first]
  | cons a cs ih =>
    cases a
    · simp only [List.cons_append, first, ih]
      cases first cs with
      | some i => rfl
      | none =>
        cases first bs with
        | none => rfl
        | some j => simp; omega
    · rfl

theorem first_snoc {bs : List Bool} {k : Nat} (h1 : first (bs.take k) = none) (h2 : bs[k]? = some false) : first (bs.take (k + 1)) = none := by
  rw [List.take_add_one, h2, first_append, h1]
  rfl
theorem first_at {bs : List Bool} {k : Nat} (h1 : first (bs.take k) = none) (h2 : bs[k]? = some true) : first bs = some k := by
  have hk : k < bs.length := (List.getElem?_eq_some_iff.1 h2).1
  have hv : bs[k] = true := (List.getElem?_eq_some_iff.1 h2).2
  have e : bs = bs.take k ++ bs.drop k := (List.take_append_drop k bs).symm
  rw [e, first_append, h1, List.drop_eq_getElem_cons hk, hv]
  simp [first]
  omega

theorem Hosts.form {w : World} {v : Value} {hs : Option (List ByteArray)} (h : Hosts w v hs) : ∃ x y z, v = .slice x y z := by
  rcases h with ⟨_, h⟩ | ⟨_, _, _, _, h, _⟩
  · exact ⟨_, _, _, h⟩
  · exact ⟨_, _, _, h⟩

/-- Which rules hit. -/
def HitsAt (w : World) (rs : List (Bool × Value)) (h : ByteArray) (bs : List Bool) : Prop :=
  bs.length = rs.length ∧ ∀ k (hk : k < rs.length), ∃ hs, Hosts w rs[k].2 hs ∧ bs[k]? = some (rs[k].1 && anyB hs h)

theorem flat_get (rs : List (Bool × Value)) (k j : Nat) (hk : k < rs.length) (hj : j < 8) : (flat rs)[k * 8 + j]? = (cells8 rs[k])[j]? := by
  induction rs generalizing k with
  | nil => simp at hk
  | cons r rs ih =>
    have e : flat (r :: rs) = cells8 r ++ flat rs := by simp [flat]
    rw [e]
    cases k with
    | zero => rw [List.getElem?_append_left (by simp [cells8]; omega)]; simp
    | succ k =>
      rw [List.getElem?_append_right (by simp [cells8]; omega)]
      have : (k + 1) * 8 + j - (cells8 r).length = k * 8 + j := by simp [cells8]; omega
      rw [this, ih k (by simpa using hk)]
      simp

theorem own_cell {w : World} {base g cap n : Nat} {rs : List (Bool × Value)} (h : w.ownsRow base 35 8 (.slice (some ⟨g, 0, none⟩) n cap) n (flat rs)) (k : Nat) (hk : k < rs.length) (j : Nat) (hj : j < 8) :
    w.cell? ⟨g, k * 8 + j, none⟩ = (cells8 rs[k])[j]? := by
  obtain ⟨hl, h0 | ⟨g', cap', cur, hv, hb, hg, hn, hc, hs, ht⟩⟩ := h
  · cases h0.1
  · cases hv
    rw [cell_of_row w g _ cur 35 (0, 0) hg, ← flat_get rs k j hk hj, ← ht, List.getElem?_take, if_pos]
    · simp
    · rw [flat_length] at hl; omega

set_option maxHeartbeats 1000000 in
set_option maxRecDepth 100000 in
theorem pass_any (h : ByteArray) (hh : h.size ≤ maxLen) (pb base : Nat) (v : Value) (rs : List (Bool × Value)) (n : Nat) (hn : n = rs.length) (bs : List Bool) (w : World) (hbx : w.cell? ⟨pb, 0, none⟩ = some v)
    (hown : w.ownsRow base 35 8 v n (flat rs)) (hb : HitsAt w rs h bs) :
    Calls Try.prog 9 #[.pointer (some ⟨pb, 0, none⟩), .string h] w fun e w' => e = .returned (.tuple #[.int .i64 (ansK bs), .bool (ansO bs)]) ∧ Below w.heap.size w w' := by
  obtain ⟨aa, cap, hvf⟩ : ∃ aa cap, v = .slice aa n cap := by
    rcases hown.2 with ⟨h1, h2⟩ | ⟨g, cap, cur, h1, _⟩
    · exact ⟨none, 0, by rw [h1, h2]⟩
    · exact ⟨_, cap, h1⟩
  subst hvf
  obtain ⟨K, hK⟩ : ∃ K, K = ansK bs := ⟨_, rfl⟩
  obtain ⟨O, hO⟩ : ∃ O, O = ansO bs := ⟨_, rfl⟩
  rw [← hK, ← hO]
  have HK : Hid (K = ansK bs) := hK
  have HO : Hid (O = ansO bs) := hO
  have HN : Hid (n = rs.length) := hn
  have HOWN : Hid (w.ownsRow base 35 8 (.slice aa n cap) n (flat rs)) := hown
  have HB : Hid (HitsAt w rs h bs) := hb
  have hn1 : n ≤ maxLen := by
    rcases hown.2 with ⟨_, h2⟩ | ⟨_, _, _, h1, _, _, h2, h3, _⟩
    · rw [h2]; exact Nat.zero_le _
    · exact Nat.le_trans h2 h3
  unfold maxLen at hn1
  clear hK hO hn hown hb
  go_enter Try.func9, Try.ntmps9
  go_wp2
  go_loopw [13] (fun t wr => ∃ k : Nat, k ≤ n ∧ t = .int .i64 k ∧ Hid (first (bs.take k) = none) ∧ Hid (Below w.heap.size w wr)) (fun t _ => n - (intOf t).toNat)
  case atStart => exact ⟨0, Nat.zero_le _, rfl, (rfl : first (bs.take 0) = none), Below.refl _ _⟩
  case round =>
    obtain ⟨k, hk, rfl, hno, hbe⟩ := hrel
    by_cases hlt : k < n
    · have hkl : k < rs.length := by rw [← HN.out]; exact hlt
      have ⟨g, haa⟩ : ∃ g, aa = some ⟨g, 0, none⟩ := by
        rcases HOWN.out.2 with ⟨_, h2⟩ | ⟨g, _, _, h1, _⟩
        · omega
        · cases h1; exact ⟨g, rfl⟩
      subst haa
      obtain ⟨hs, hho, hbk⟩ := HB.out.2 k hkl
      obtain ⟨x, y, z, hform⟩ := hho.form
      obtain ⟨p, hp⟩ : ∃ p, p = rs[k].1 := ⟨_, rfl⟩
      have cc := fun j hj => own_cell HOWN.out k hkl j hj
      have ce : cells8 rs[k] = [.string ⟨#[]⟩, .int .i64 0, .int .i64 0, .slice none 0 0, .slice none 0 0, .slice x y z, .slice none 0 0, .bool p] := by unfold cells8; rw [hform, ← hp]
      rw [ce] at cc
      have cw : ∀ j, j < 8 → wr.cell? ⟨g, k * 8 + j, none⟩ = ([.string ⟨#[]⟩, .int .i64 0, .int .i64 0, .slice none 0 0, .slice none 0 0, .slice x y z, .slice none 0 0, .bool p] : List Value)[j]? := fun j hj => by
        rw [← cc j hj]
        refine hbe.out.cell (block_lt_of_cell (cc j hj |>.trans (List.getElem?_eq_getElem (by simpa using hj))))
      have c0 : wr.cell? ⟨g, k * 8, none⟩ = some (.string ⟨#[]⟩) := cw 0 (by omega)
      have c1 := cw 1 (by omega)
      have c2 := cw 2 (by omega)
      have c3 := cw 3 (by omega)
      have c4 := cw 4 (by omega)
      have c5 := cw 5 (by omega)
      have c6 := cw 6 (by omega)
      have c7 := cw 7 (by omega)
      simp only [List.getElem?_cons_succ, List.getElem?_cons_zero] at c1 c2 c3 c4 c5 c6 c7
      rw [hform] at hho
      rw [← hp] at hbk
      have HHO : Hid (Hosts w (.slice x y z) hs) := hho
      have HBK : Hid (bs[k]? = some (p && anyB hs h)) := hbk
      have hk0 : (0 : Int) ≤ (k : Int) := Int.natCast_nonneg _
      have hk1 : (k : Int) < (n : Int) := by omega
      clear cc cw hho hbk hform ce hp
      cases p
      · go_wp2_with fail
        go_roundw
        case rel => exact ⟨k + 1, by omega, by go_num, first_snoc hno.out (by rw [HBK.out]; rfl), hbe.out.alloc hbe.out.size _⟩
        case measure => simp [intOf]; omega
      · go_wp2_with fail
        refine (matches_any h hh (.slice x y z) hs _ (HHO.out.on (hbe.out.alloc hbe.out.size _))).mono ?_
        rintro e w2 ⟨rfl, hb2⟩
        have HB2 : Hid (Below w.heap.size w w2) := (hbe.out.alloc hbe.out.size _).trans (hb2.mono (by have := hbe.out.size; simp; omega))
        clear hb2 c0 c1 c2 c3 c4 c5 c6 c7
        cases hq : anyB hs h
        · have HQ : Hid (anyB hs h = false) := hq
          clear hq
          go_wp2_with fail
          go_roundw
          case rel => exact ⟨k + 1, by omega, by go_num, first_snoc hno.out (by rw [HBK.out, HQ.out]; rfl), HB2⟩
          case measure => simp [intOf]; omega
        · have HQ : Hid (anyB hs h = true) := hq
          clear hq
          go_wp2_with fail
          go_ret2
          have hf := first_at hno.out (by rw [HBK.out, HQ.out]; rfl)
          have e1 : K = (k : Int) + 1 := by rw [HK.out, ansK, hf]
          have e2 : O = true := by rw [HO.out, ansO, hf]; rfl
          rw [e1, e2]
          exact ⟨rfl, HB2.out⟩
    · go_wp2_with fail
      go_ret2
      have hk' : k = bs.length := by rw [HB.out.1, ← HN.out]; omega
      have hf := hno.out
      rw [hk', List.take_length] at hf
      have e1 : K = 0 := by rw [HK.out, ansK, hf]
      have e2 : O = false := by rw [HO.out, ansO, hf]; rfl
      rw [e1, e2]
      exact ⟨rfl, hbe.out⟩
end Go.Proofs.Qxb6629201a
