/-
  The walk of the law FnPassesThroughInsertOwnHost.
-/
import Derived.Test.Qxb6629201aParts
namespace Go.Proofs.Qxb6629201a
open Go.RowKit

theorem row_alloc {w : World} {B : Nat} {o : Obj} (h : w.heap[B]? = some o) (o1 : Obj) : (w.alloc o1).heap[B]? = some o := by
  rw [Below.heap_alloc _ _ _ (Array.getElem?_eq_some_iff.1 h).1, h]

/-- The hits with the host's own rule put in at j. -/
theorem own_hits (p : Bool) {w w5 : World} {rs : List (Bool × Value)} {h : ByteArray} {bs : List Bool} {B : Nat} (hh : HitsAt w rs h bs) (hb : Below w.heap.size w w5) (hs : h.size ≤ maxLen) (hB : w5.heap[B]? = some (.cells #[.string h] 9 (0, 0))) (j : Nat) :
    HitsAt w5 (rs.take j ++ [(p, .slice (some ⟨B, 0, none⟩) 1 1)] ++ rs.drop j) h (bs.take j ++ [p] ++ bs.drop j) := by
  have h1 := HitsAt.one (h := h) p B hs hB
  rw [hm_self, Bool.and_true] at h1
  exact (((hh.take j).on hb).append h1).append ((hh.drop j).on hb)

set_option maxHeartbeats 4000000 in
set_option maxRecDepth 100000 in
theorem lawA_walk (a : Option Addr) (c len : Nat) (hlc : len ≤ c) (_hcm : c ≤ maxLen) (rs : List (Bool × Value)) (hlen : len = rs.length) (j : Nat) (hj : j ≤ len) (hst : ByteArray) (hh : hst.size ≤ maxLen) (bs : List Bool) (w : World)
    (hin : In w.heap.size w a rs) (hb : HitsAt w rs hst bs) (O0 O1 O2 : Bool) (K0 K1 K2 : Int)
    (hK0 : K0 = ansK bs) (hO0 : O0 = ansO bs) (hK1 : K1 = ansK (bs.take j ++ [true] ++ bs.drop j)) (hO1 : O1 = ansO (bs.take j ++ [true] ++ bs.drop j)) (hK2 : K2 = ansK (bs.take j ++ [false] ++ bs.drop j)) (hO2 : O2 = ansO (bs.take j ++ [false] ++ bs.drop j))
    (hcase : (O0 = true ∧ 1 ≤ K0 ∧ K0 ≤ j ∧ O1 = true ∧ K1 = K0 ∧ O2 = true ∧ K2 = K0) ∨ (O0 = true ∧ j < K0 ∧ K0 ≤ len ∧ O1 = true ∧ K1 = j + 1 ∧ O2 = true ∧ K2 = K0 + 1) ∨ (O0 = false ∧ K0 = 0 ∧ O1 = true ∧ K1 = j + 1 ∧ O2 = false ∧ K2 = 0)) :
    Calls Try.prog 3 #[.slice a len c, .int .i64 j, .string hst] w fun e w' => e = .returned (.bool true) ∧ Below w.heap.size w w' := by
  obtain ⟨aj, haj⟩ : ∃ aj, (if c = j then a else Option.map (fun x => x.add (j * 2)) a) = aj := ⟨_, rfl⟩
  have HAJ : Hid (RulesAt w.heap.size w aj (rs.drop j)) := drop_at hin.1 c j (by omega) aj haj
  have HIN : Hid (In w.heap.size w a rs) := hin
  have HB : Hid (HitsAt w rs hst bs) := hb
  have HLN : Hid (len = rs.length) := hlen
  have HH : Hid (hst.size ≤ maxLen) := hh
  have HK0 : Hid (K0 = ansK bs) := hK0
  have HO0 : Hid (O0 = ansO bs) := hO0
  have HK1 : Hid (K1 = ansK (bs.take j ++ [true] ++ bs.drop j)) := hK1
  have HO1 : Hid (O1 = ansO (bs.take j ++ [true] ++ bs.drop j)) := hO1
  have HK2 : Hid (K2 = ansK (bs.take j ++ [false] ++ bs.drop j)) := hK2
  have HO2 : Hid (O2 = ansO (bs.take j ++ [false] ++ bs.drop j)) := hO2
  obtain ⟨i0, hi0, hz0, hz1, hz2⟩ := info_parts Try.info35
  have IP : Hid (Try.prog.info? 35 = some i0 ∧ _ ∧ _ ∧ _) := ⟨hi0, hz0, hz1, hz2⟩
  unfold maxLen at hh _hcm
  clear hin hb hlen hK0 hO0 hK1 hO1 hK2 hO2 hi0 hz0 hz1 hz2
  rcases hcase with ⟨rfl, q1, q2, rfl, rfl, rfl, rfl⟩ | ⟨rfl, q1, q2, rfl, rfl, rfl, rfl⟩ | ⟨rfl, rfl, rfl, rfl, rfl, rfl⟩
  · go_enter Try.func3, Try.ntmps3
    go_wp2_with fail
    refine (bytesA_any w.heap.size a c rs len HLN.out j hst HH.out _ HIN.out).mono ?_
    rintro e w' ⟨⟨r, rfl, hr⟩, hw⟩
    subst w'
    cases r
    · clear hr
      go_wp2_with fail
      go_ret
      exact ⟨rfl, Below.refl _ _⟩
    have hsm := (hr rfl).1
    clear hr
    go_wp2_with fail
    refine (fits_any w.heap.size a c rs len HLN.out hst HH.out _ HIN.out).mono ?_
    rintro e w' ⟨⟨r, rfl, hr⟩, hw⟩
    subst w'
    clear hr
    cases r
    · go_wp2_with fail
      go_ret
      exact ⟨rfl, Below.refl _ _⟩
    go_wp2_with fail
    refine (append_as w.heap.size (.slice none 0 0) 0 [] a c rs len HLN.out _ (World.ownsRow_nil _ _ _ _) (Nat.le_refl _) HIN.out.1 (by omega)).mono ?_
    rintro e w1 ⟨a1, c1, rfl, hown1, hg1, _⟩
    have B1 : Hid (Below w.heap.size w w1) := (Below.refl _ _).grown hg1 (Nat.le_refl _) (fun k hk => by cases hk)
    have W1 : Hid (w1.ownsRow w.heap.size 35 8 (.slice a1 (0 + len) c1) (0 + len) (flat rs)) := hown1
    clear hown1 hg1
    simp only [Nat.zero_add] at W1
    go_wp2_with fail
    refine (newPolicy_any _ _ _ _).mono ?_
    rintro e w' ⟨rfl, hw⟩
    subst w'
    go_wp2_with fail
    refine (pass_any hst HH.out w1.heap.size w.heap.size (.slice a1 len c1) rs len HLN.out bs _ (cell_of_row _ _ 0 _ 41 (0, 0) (heap_alloc_new w1 _)) (W1.out.alloc _) (HB.out.on (B1.out.alloc B1.out.size _))).mono ?_
    rintro e w2 ⟨rfl, hb2⟩
    have B2 : Hid (Below w.heap.size w w2) := (B1.out.alloc B1.out.size _).trans (hb2.mono (by have := B1.out.size; simp; omega))
    rw [← HK0.out, ← HO0.out]
    clear hb2 W1 B1
    go_wp2_with fail
    refine (append_as w.heap.size (.slice none 0 0) 0 [] a c (rs.take j) j (by rw [List.length_take, ← HLN.out]; omega) _ (World.ownsRow_nil _ _ _ _) B2.out.size ((HIN.out.1.on B2.out).take j) (by omega)).mono ?_
    rintro e w3p ⟨a3p, c3p, rfl, hown3, hg3, _⟩
    have B3p : Hid (Below w.heap.size w w3p) := B2.out.grown hg3 B2.out.size (fun k hk => by cases hk)
    have W3p : Hid (w3p.ownsRow w.heap.size 35 8 (.slice a3p (0 + j) c3p) (0 + j) (flat (rs.take j))) := hown3
    clear hown3 hg3 B2
    simp only [Nat.zero_add] at W3p
    go_wp2_with fail
    refine (newRule_any true (some ⟨w3p.heap.size, 0, none⟩) 1 1 _).mono ?_
    rintro e w' ⟨rfl, hw⟩
    subst w'
    go_wp2_with (at_builtin; refine wpList_append_lies _ (by rfl) _ _ 25 (by rfl) w.heap.size 35 i0 _ 8 136 Try.underlying25 IP.out.1 IP.out.2.1 IP.out.2.2.1 IP.out.2.2.2 rfl (by omega) (.slice a3p j c3p) j (flat (rs.take j)) (by rfl) (((W3p.out.alloc _).alloc _).alloc _) ⟨w3p.heap.size + 1 + 1, 0, none⟩ 1 1 [.string ⟨#[]⟩, .int .i64 0, .int .i64 0, .slice none 0 0, .slice none 0 0, .slice (some ⟨w3p.heap.size, 0, none⟩) 1 1, .slice none 0 0, .bool true] (by rfl) (by rfl) (World.news_of_block (cs := #[.string ⟨#[]⟩, .int .i64 0, .int .i64 0, .slice none 0 0, .slice none 0 0, .slice (some ⟨w3p.heap.size, 0, none⟩) 1 1, .slice none 0 0, .bool true]) (t := 35) (fr := (0, 0)) (row_new ((w3p.alloc _).alloc _) _ _ (by simp))) (by simp [Value.oneCell']) (by omega) (by unfold maxLen; omega) (by omega) (by have := B3p.out.size; simp; omega) (w3p.heap.size + 1 + 1 + 1) (by simp) ?_; intro gp capp w4p hown4 hgrow4 hat hlt4)
    obtain ⟨b4, o4, h4, n4⟩ := mid_facts B3p.out W3p.out hown4 hgrow4 hat
    have B4p : Hid (Below w.heap.size w w4p) := b4
    have W4p : Hid (w4p.ownsRow w.heap.size 35 8 (.slice (some ⟨gp, 0, none⟩) (j + 1) capp) (j + 1) (flat (rs.take j ++ [(true, .slice (some ⟨w3p.heap.size, 0, none⟩) 1 1)]))) := o4
    have H4p : Hid (w4p.heap[w3p.heap.size]? = some (.cells #[.string hst] 9 (0, 0))) := h4
    have N4p : Hid (gp ≠ w3p.heap.size) := n4
    clear b4 o4 h4 n4 hown4 hgrow4 hat hlt4 B3p W3p
    refine (append_as w.heap.size (.slice (some ⟨gp, 0, none⟩) (j + 1) capp) (j + 1) (rs.take j ++ [(true, .slice (some ⟨w3p.heap.size, 0, none⟩) 1 1)]) aj (c - j) (rs.drop j) (len - j) (by rw [List.length_drop, ← HLN.out]) _ W4p.out B4p.out.size (HAJ.out.on B4p.out) (by omega)).mono ?_
    rintro e w5p ⟨a5p, c5p, rfl, hown5, hg5, _⟩
    obtain ⟨b5, h5⟩ := end_facts B4p.out W4p.out H4p.out N4p.out hg5
    have B5p : Hid (Below w.heap.size w w5p) := b5
    have H5p : Hid (w5p.heap[w3p.heap.size]? = some (.cells #[.string hst] 9 (0, 0))) := h5
    have W5p : Hid (w5p.ownsRow w.heap.size 35 8 (.slice a5p (j + 1 + (len - j)) c5p) (j + 1 + (len - j)) (flat (rs.take j ++ [(true, .slice (some ⟨w3p.heap.size, 0, none⟩) 1 1)] ++ rs.drop j))) := hown5
    clear b5 h5 hown5 hg5 B4p W4p H4p N4p
    go_wp2_with fail
    refine (newPolicy_any _ _ _ _).mono ?_
    rintro e w' ⟨rfl, hw⟩
    subst w'
    go_wp2_with fail
    refine (pass_any hst HH.out w5p.heap.size w.heap.size (.slice a5p (j + 1 + (len - j)) c5p) (rs.take j ++ [(true, .slice (some ⟨w3p.heap.size, 0, none⟩) 1 1)] ++ rs.drop j) (j + 1 + (len - j)) (by simp only [List.length_append, List.length_take, List.length_drop, List.length_cons, List.length_nil, ← HLN.out]; omega) (bs.take j ++ [true] ++ bs.drop j) _ (cell_of_row _ _ 0 _ 41 (0, 0) (heap_alloc_new w5p _)) (W5p.out.alloc _) (own_hits true HB.out (B5p.out.alloc B5p.out.size _) HH.out (row_alloc H5p.out _) j)).mono ?_
    rintro e w6p ⟨rfl, hb6⟩
    have B6p : Hid (Below w.heap.size w w6p) := (B5p.out.alloc B5p.out.size _).trans (hb6.mono (by have := B5p.out.size; simp; omega))
    rw [← HK1.out, ← HO1.out]
    clear hb6 B5p W5p H5p
    go_wp2_with fail
    refine (append_as w.heap.size (.slice none 0 0) 0 [] a c (rs.take j) j (by rw [List.length_take, ← HLN.out]; omega) _ (World.ownsRow_nil _ _ _ _) B6p.out.size ((HIN.out.1.on B6p.out).take j) (by omega)).mono ?_
    rintro e w3q ⟨a3q, c3q, rfl, hown3, hg3, _⟩
    have B3q : Hid (Below w.heap.size w w3q) := B6p.out.grown hg3 B6p.out.size (fun k hk => by cases hk)
    have W3q : Hid (w3q.ownsRow w.heap.size 35 8 (.slice a3q (0 + j) c3q) (0 + j) (flat (rs.take j))) := hown3
    clear hown3 hg3 B6p
    simp only [Nat.zero_add] at W3q
    go_wp2_with fail
    refine (newRule_any false (some ⟨w3q.heap.size, 0, none⟩) 1 1 _).mono ?_
    rintro e w' ⟨rfl, hw⟩
    subst w'
    go_wp2_with (at_builtin; refine wpList_append_lies _ (by rfl) _ _ 25 (by rfl) w.heap.size 35 i0 _ 8 136 Try.underlying25 IP.out.1 IP.out.2.1 IP.out.2.2.1 IP.out.2.2.2 rfl (by omega) (.slice a3q j c3q) j (flat (rs.take j)) (by rfl) (((W3q.out.alloc _).alloc _).alloc _) ⟨w3q.heap.size + 1 + 1, 0, none⟩ 1 1 [.string ⟨#[]⟩, .int .i64 0, .int .i64 0, .slice none 0 0, .slice none 0 0, .slice (some ⟨w3q.heap.size, 0, none⟩) 1 1, .slice none 0 0, .bool false] (by rfl) (by rfl) (World.news_of_block (cs := #[.string ⟨#[]⟩, .int .i64 0, .int .i64 0, .slice none 0 0, .slice none 0 0, .slice (some ⟨w3q.heap.size, 0, none⟩) 1 1, .slice none 0 0, .bool false]) (t := 35) (fr := (0, 0)) (row_new ((w3q.alloc _).alloc _) _ _ (by simp))) (by simp [Value.oneCell']) (by omega) (by unfold maxLen; omega) (by omega) (by have := B3q.out.size; simp; omega) (w3q.heap.size + 1 + 1 + 1) (by simp) ?_; intro gq capq w4q hown4 hgrow4 hat hlt4)
    obtain ⟨b4, o4, h4, n4⟩ := mid_facts B3q.out W3q.out hown4 hgrow4 hat
    have B4q : Hid (Below w.heap.size w w4q) := b4
    have W4q : Hid (w4q.ownsRow w.heap.size 35 8 (.slice (some ⟨gq, 0, none⟩) (j + 1) capq) (j + 1) (flat (rs.take j ++ [(false, .slice (some ⟨w3q.heap.size, 0, none⟩) 1 1)]))) := o4
    have H4q : Hid (w4q.heap[w3q.heap.size]? = some (.cells #[.string hst] 9 (0, 0))) := h4
    have N4q : Hid (gq ≠ w3q.heap.size) := n4
    clear b4 o4 h4 n4 hown4 hgrow4 hat hlt4 B3q W3q
    refine (append_as w.heap.size (.slice (some ⟨gq, 0, none⟩) (j + 1) capq) (j + 1) (rs.take j ++ [(false, .slice (some ⟨w3q.heap.size, 0, none⟩) 1 1)]) aj (c - j) (rs.drop j) (len - j) (by rw [List.length_drop, ← HLN.out]) _ W4q.out B4q.out.size (HAJ.out.on B4q.out) (by omega)).mono ?_
    rintro e w5q ⟨a5q, c5q, rfl, hown5, hg5, _⟩
    obtain ⟨b5, h5⟩ := end_facts B4q.out W4q.out H4q.out N4q.out hg5
    have B5q : Hid (Below w.heap.size w w5q) := b5
    have H5q : Hid (w5q.heap[w3q.heap.size]? = some (.cells #[.string hst] 9 (0, 0))) := h5
    have W5q : Hid (w5q.ownsRow w.heap.size 35 8 (.slice a5q (j + 1 + (len - j)) c5q) (j + 1 + (len - j)) (flat (rs.take j ++ [(false, .slice (some ⟨w3q.heap.size, 0, none⟩) 1 1)] ++ rs.drop j))) := hown5
    clear b5 h5 hown5 hg5 B4q W4q H4q N4q
    go_wp2_with fail
    refine (newPolicy_any _ _ _ _).mono ?_
    rintro e w' ⟨rfl, hw⟩
    subst w'
    go_wp2_with fail
    refine (pass_any hst HH.out w5q.heap.size w.heap.size (.slice a5q (j + 1 + (len - j)) c5q) (rs.take j ++ [(false, .slice (some ⟨w3q.heap.size, 0, none⟩) 1 1)] ++ rs.drop j) (j + 1 + (len - j)) (by simp only [List.length_append, List.length_take, List.length_drop, List.length_cons, List.length_nil, ← HLN.out]; omega) (bs.take j ++ [false] ++ bs.drop j) _ (cell_of_row _ _ 0 _ 41 (0, 0) (heap_alloc_new w5q _)) (W5q.out.alloc _) (own_hits false HB.out (B5q.out.alloc B5q.out.size _) HH.out (row_alloc H5q.out _) j)).mono ?_
    rintro e w6q ⟨rfl, hb6⟩
    have B6q : Hid (Below w.heap.size w w6q) := (B5q.out.alloc B5q.out.size _).trans (hb6.mono (by have := B5q.out.size; simp; omega))
    rw [← HK2.out, ← HO2.out]
    clear hb6 B5q W5q H5q
    go_wp2_with fail
    go_ret
    exact ⟨rfl, B6q.out⟩
  · rw [if_neg (by omega)] at haj
    go_enter Try.func3, Try.ntmps3
    go_wp2_with fail
    refine (bytesA_any w.heap.size a c rs len HLN.out j hst HH.out _ HIN.out).mono ?_
    rintro e w' ⟨⟨r, rfl, hr⟩, hw⟩
    subst w'
    cases r
    · clear hr
      go_wp2_with fail
      go_ret
      exact ⟨rfl, Below.refl _ _⟩
    have hsm := (hr rfl).1
    clear hr
    go_wp2_with fail
    refine (fits_any w.heap.size a c rs len HLN.out hst HH.out _ HIN.out).mono ?_
    rintro e w' ⟨⟨r, rfl, hr⟩, hw⟩
    subst w'
    clear hr
    cases r
    · go_wp2_with fail
      go_ret
      exact ⟨rfl, Below.refl _ _⟩
    go_wp2_with fail
    refine (append_as w.heap.size (.slice none 0 0) 0 [] a c rs len HLN.out _ (World.ownsRow_nil _ _ _ _) (Nat.le_refl _) HIN.out.1 (by omega)).mono ?_
    rintro e w1 ⟨a1, c1, rfl, hown1, hg1, _⟩
    have B1 : Hid (Below w.heap.size w w1) := (Below.refl _ _).grown hg1 (Nat.le_refl _) (fun k hk => by cases hk)
    have W1 : Hid (w1.ownsRow w.heap.size 35 8 (.slice a1 (0 + len) c1) (0 + len) (flat rs)) := hown1
    clear hown1 hg1
    simp only [Nat.zero_add] at W1
    go_wp2_with fail
    refine (newPolicy_any _ _ _ _).mono ?_
    rintro e w' ⟨rfl, hw⟩
    subst w'
    go_wp2_with fail
    refine (pass_any hst HH.out w1.heap.size w.heap.size (.slice a1 len c1) rs len HLN.out bs _ (cell_of_row _ _ 0 _ 41 (0, 0) (heap_alloc_new w1 _)) (W1.out.alloc _) (HB.out.on (B1.out.alloc B1.out.size _))).mono ?_
    rintro e w2 ⟨rfl, hb2⟩
    have B2 : Hid (Below w.heap.size w w2) := (B1.out.alloc B1.out.size _).trans (hb2.mono (by have := B1.out.size; simp; omega))
    rw [← HK0.out, ← HO0.out]
    clear hb2 W1 B1
    go_wp2_with fail
    refine (append_as w.heap.size (.slice none 0 0) 0 [] a c (rs.take j) j (by rw [List.length_take, ← HLN.out]; omega) _ (World.ownsRow_nil _ _ _ _) B2.out.size ((HIN.out.1.on B2.out).take j) (by omega)).mono ?_
    rintro e w3p ⟨a3p, c3p, rfl, hown3, hg3, _⟩
    have B3p : Hid (Below w.heap.size w w3p) := B2.out.grown hg3 B2.out.size (fun k hk => by cases hk)
    have W3p : Hid (w3p.ownsRow w.heap.size 35 8 (.slice a3p (0 + j) c3p) (0 + j) (flat (rs.take j))) := hown3
    clear hown3 hg3 B2
    simp only [Nat.zero_add] at W3p
    go_wp2_with fail
    refine (newRule_any true (some ⟨w3p.heap.size, 0, none⟩) 1 1 _).mono ?_
    rintro e w' ⟨rfl, hw⟩
    subst w'
    go_wp2_with (at_builtin; refine wpList_append_lies _ (by rfl) _ _ 25 (by rfl) w.heap.size 35 i0 _ 8 136 Try.underlying25 IP.out.1 IP.out.2.1 IP.out.2.2.1 IP.out.2.2.2 rfl (by omega) (.slice a3p j c3p) j (flat (rs.take j)) (by rfl) (((W3p.out.alloc _).alloc _).alloc _) ⟨w3p.heap.size + 1 + 1, 0, none⟩ 1 1 [.string ⟨#[]⟩, .int .i64 0, .int .i64 0, .slice none 0 0, .slice none 0 0, .slice (some ⟨w3p.heap.size, 0, none⟩) 1 1, .slice none 0 0, .bool true] (by rfl) (by rfl) (World.news_of_block (cs := #[.string ⟨#[]⟩, .int .i64 0, .int .i64 0, .slice none 0 0, .slice none 0 0, .slice (some ⟨w3p.heap.size, 0, none⟩) 1 1, .slice none 0 0, .bool true]) (t := 35) (fr := (0, 0)) (row_new ((w3p.alloc _).alloc _) _ _ (by simp))) (by simp [Value.oneCell']) (by omega) (by unfold maxLen; omega) (by omega) (by have := B3p.out.size; simp; omega) (w3p.heap.size + 1 + 1 + 1) (by simp) ?_; intro gp capp w4p hown4 hgrow4 hat hlt4)
    obtain ⟨b4, o4, h4, n4⟩ := mid_facts B3p.out W3p.out hown4 hgrow4 hat
    have B4p : Hid (Below w.heap.size w w4p) := b4
    have W4p : Hid (w4p.ownsRow w.heap.size 35 8 (.slice (some ⟨gp, 0, none⟩) (j + 1) capp) (j + 1) (flat (rs.take j ++ [(true, .slice (some ⟨w3p.heap.size, 0, none⟩) 1 1)]))) := o4
    have H4p : Hid (w4p.heap[w3p.heap.size]? = some (.cells #[.string hst] 9 (0, 0))) := h4
    have N4p : Hid (gp ≠ w3p.heap.size) := n4
    clear b4 o4 h4 n4 hown4 hgrow4 hat hlt4 B3p W3p
    refine (append_as w.heap.size (.slice (some ⟨gp, 0, none⟩) (j + 1) capp) (j + 1) (rs.take j ++ [(true, .slice (some ⟨w3p.heap.size, 0, none⟩) 1 1)]) aj (c - j) (rs.drop j) (len - j) (by rw [List.length_drop, ← HLN.out]) _ W4p.out B4p.out.size (HAJ.out.on B4p.out) (by omega)).mono ?_
    rintro e w5p ⟨a5p, c5p, rfl, hown5, hg5, _⟩
    obtain ⟨b5, h5⟩ := end_facts B4p.out W4p.out H4p.out N4p.out hg5
    have B5p : Hid (Below w.heap.size w w5p) := b5
    have H5p : Hid (w5p.heap[w3p.heap.size]? = some (.cells #[.string hst] 9 (0, 0))) := h5
    have W5p : Hid (w5p.ownsRow w.heap.size 35 8 (.slice a5p (j + 1 + (len - j)) c5p) (j + 1 + (len - j)) (flat (rs.take j ++ [(true, .slice (some ⟨w3p.heap.size, 0, none⟩) 1 1)] ++ rs.drop j))) := hown5
    clear b5 h5 hown5 hg5 B4p W4p H4p N4p
    go_wp2_with fail
    refine (newPolicy_any _ _ _ _).mono ?_
    rintro e w' ⟨rfl, hw⟩
    subst w'
    go_wp2_with fail
    refine (pass_any hst HH.out w5p.heap.size w.heap.size (.slice a5p (j + 1 + (len - j)) c5p) (rs.take j ++ [(true, .slice (some ⟨w3p.heap.size, 0, none⟩) 1 1)] ++ rs.drop j) (j + 1 + (len - j)) (by simp only [List.length_append, List.length_take, List.length_drop, List.length_cons, List.length_nil, ← HLN.out]; omega) (bs.take j ++ [true] ++ bs.drop j) _ (cell_of_row _ _ 0 _ 41 (0, 0) (heap_alloc_new w5p _)) (W5p.out.alloc _) (own_hits true HB.out (B5p.out.alloc B5p.out.size _) HH.out (row_alloc H5p.out _) j)).mono ?_
    rintro e w6p ⟨rfl, hb6⟩
    have B6p : Hid (Below w.heap.size w w6p) := (B5p.out.alloc B5p.out.size _).trans (hb6.mono (by have := B5p.out.size; simp; omega))
    rw [← HK1.out, ← HO1.out]
    clear hb6 B5p W5p H5p
    go_wp2_with fail
    refine (append_as w.heap.size (.slice none 0 0) 0 [] a c (rs.take j) j (by rw [List.length_take, ← HLN.out]; omega) _ (World.ownsRow_nil _ _ _ _) B6p.out.size ((HIN.out.1.on B6p.out).take j) (by omega)).mono ?_
    rintro e w3q ⟨a3q, c3q, rfl, hown3, hg3, _⟩
    have B3q : Hid (Below w.heap.size w w3q) := B6p.out.grown hg3 B6p.out.size (fun k hk => by cases hk)
    have W3q : Hid (w3q.ownsRow w.heap.size 35 8 (.slice a3q (0 + j) c3q) (0 + j) (flat (rs.take j))) := hown3
    clear hown3 hg3 B6p
    simp only [Nat.zero_add] at W3q
    go_wp2_with fail
    refine (newRule_any false (some ⟨w3q.heap.size, 0, none⟩) 1 1 _).mono ?_
    rintro e w' ⟨rfl, hw⟩
    subst w'
    go_wp2_with (at_builtin; refine wpList_append_lies _ (by rfl) _ _ 25 (by rfl) w.heap.size 35 i0 _ 8 136 Try.underlying25 IP.out.1 IP.out.2.1 IP.out.2.2.1 IP.out.2.2.2 rfl (by omega) (.slice a3q j c3q) j (flat (rs.take j)) (by rfl) (((W3q.out.alloc _).alloc _).alloc _) ⟨w3q.heap.size + 1 + 1, 0, none⟩ 1 1 [.string ⟨#[]⟩, .int .i64 0, .int .i64 0, .slice none 0 0, .slice none 0 0, .slice (some ⟨w3q.heap.size, 0, none⟩) 1 1, .slice none 0 0, .bool false] (by rfl) (by rfl) (World.news_of_block (cs := #[.string ⟨#[]⟩, .int .i64 0, .int .i64 0, .slice none 0 0, .slice none 0 0, .slice (some ⟨w3q.heap.size, 0, none⟩) 1 1, .slice none 0 0, .bool false]) (t := 35) (fr := (0, 0)) (row_new ((w3q.alloc _).alloc _) _ _ (by simp))) (by simp [Value.oneCell']) (by omega) (by unfold maxLen; omega) (by omega) (by have := B3q.out.size; simp; omega) (w3q.heap.size + 1 + 1 + 1) (by simp) ?_; intro gq capq w4q hown4 hgrow4 hat hlt4)
    obtain ⟨b4, o4, h4, n4⟩ := mid_facts B3q.out W3q.out hown4 hgrow4 hat
    have B4q : Hid (Below w.heap.size w w4q) := b4
    have W4q : Hid (w4q.ownsRow w.heap.size 35 8 (.slice (some ⟨gq, 0, none⟩) (j + 1) capq) (j + 1) (flat (rs.take j ++ [(false, .slice (some ⟨w3q.heap.size, 0, none⟩) 1 1)]))) := o4
    have H4q : Hid (w4q.heap[w3q.heap.size]? = some (.cells #[.string hst] 9 (0, 0))) := h4
    have N4q : Hid (gq ≠ w3q.heap.size) := n4
    clear b4 o4 h4 n4 hown4 hgrow4 hat hlt4 B3q W3q
    refine (append_as w.heap.size (.slice (some ⟨gq, 0, none⟩) (j + 1) capq) (j + 1) (rs.take j ++ [(false, .slice (some ⟨w3q.heap.size, 0, none⟩) 1 1)]) aj (c - j) (rs.drop j) (len - j) (by rw [List.length_drop, ← HLN.out]) _ W4q.out B4q.out.size (HAJ.out.on B4q.out) (by omega)).mono ?_
    rintro e w5q ⟨a5q, c5q, rfl, hown5, hg5, _⟩
    obtain ⟨b5, h5⟩ := end_facts B4q.out W4q.out H4q.out N4q.out hg5
    have B5q : Hid (Below w.heap.size w w5q) := b5
    have H5q : Hid (w5q.heap[w3q.heap.size]? = some (.cells #[.string hst] 9 (0, 0))) := h5
    have W5q : Hid (w5q.ownsRow w.heap.size 35 8 (.slice a5q (j + 1 + (len - j)) c5q) (j + 1 + (len - j)) (flat (rs.take j ++ [(false, .slice (some ⟨w3q.heap.size, 0, none⟩) 1 1)] ++ rs.drop j))) := hown5
    clear b5 h5 hown5 hg5 B4q W4q H4q N4q
    go_wp2_with fail
    refine (newPolicy_any _ _ _ _).mono ?_
    rintro e w' ⟨rfl, hw⟩
    subst w'
    go_wp2_with fail
    refine (pass_any hst HH.out w5q.heap.size w.heap.size (.slice a5q (j + 1 + (len - j)) c5q) (rs.take j ++ [(false, .slice (some ⟨w3q.heap.size, 0, none⟩) 1 1)] ++ rs.drop j) (j + 1 + (len - j)) (by simp only [List.length_append, List.length_take, List.length_drop, List.length_cons, List.length_nil, ← HLN.out]; omega) (bs.take j ++ [false] ++ bs.drop j) _ (cell_of_row _ _ 0 _ 41 (0, 0) (heap_alloc_new w5q _)) (W5q.out.alloc _) (own_hits false HB.out (B5q.out.alloc B5q.out.size _) HH.out (row_alloc H5q.out _) j)).mono ?_
    rintro e w6q ⟨rfl, hb6⟩
    have B6q : Hid (Below w.heap.size w w6q) := (B5q.out.alloc B5q.out.size _).trans (hb6.mono (by have := B5q.out.size; simp; omega))
    rw [← HK2.out, ← HO2.out]
    clear hb6 B5q W5q H5q
    go_wp2_with fail
    go_ret
    exact ⟨rfl, B6q.out⟩
  · go_enter Try.func3, Try.ntmps3
    go_wp2_with fail
    refine (bytesA_any w.heap.size a c rs len HLN.out j hst HH.out _ HIN.out).mono ?_
    rintro e w' ⟨⟨r, rfl, hr⟩, hw⟩
    subst w'
    cases r
    · clear hr
      go_wp2_with fail
      go_ret
      exact ⟨rfl, Below.refl _ _⟩
    have hsm := (hr rfl).1
    clear hr
    go_wp2_with fail
    refine (fits_any w.heap.size a c rs len HLN.out hst HH.out _ HIN.out).mono ?_
    rintro e w' ⟨⟨r, rfl, hr⟩, hw⟩
    subst w'
    clear hr
    cases r
    · go_wp2_with fail
      go_ret
      exact ⟨rfl, Below.refl _ _⟩
    go_wp2_with fail
    refine (append_as w.heap.size (.slice none 0 0) 0 [] a c rs len HLN.out _ (World.ownsRow_nil _ _ _ _) (Nat.le_refl _) HIN.out.1 (by omega)).mono ?_
    rintro e w1 ⟨a1, c1, rfl, hown1, hg1, _⟩
    have B1 : Hid (Below w.heap.size w w1) := (Below.refl _ _).grown hg1 (Nat.le_refl _) (fun k hk => by cases hk)
    have W1 : Hid (w1.ownsRow w.heap.size 35 8 (.slice a1 (0 + len) c1) (0 + len) (flat rs)) := hown1
    clear hown1 hg1
    simp only [Nat.zero_add] at W1
    go_wp2_with fail
    refine (newPolicy_any _ _ _ _).mono ?_
    rintro e w' ⟨rfl, hw⟩
    subst w'
    go_wp2_with fail
    refine (pass_any hst HH.out w1.heap.size w.heap.size (.slice a1 len c1) rs len HLN.out bs _ (cell_of_row _ _ 0 _ 41 (0, 0) (heap_alloc_new w1 _)) (W1.out.alloc _) (HB.out.on (B1.out.alloc B1.out.size _))).mono ?_
    rintro e w2 ⟨rfl, hb2⟩
    have B2 : Hid (Below w.heap.size w w2) := (B1.out.alloc B1.out.size _).trans (hb2.mono (by have := B1.out.size; simp; omega))
    rw [← HK0.out, ← HO0.out]
    clear hb2 W1 B1
    go_wp2_with fail
    refine (append_as w.heap.size (.slice none 0 0) 0 [] a c (rs.take j) j (by rw [List.length_take, ← HLN.out]; omega) _ (World.ownsRow_nil _ _ _ _) B2.out.size ((HIN.out.1.on B2.out).take j) (by omega)).mono ?_
    rintro e w3p ⟨a3p, c3p, rfl, hown3, hg3, _⟩
    have B3p : Hid (Below w.heap.size w w3p) := B2.out.grown hg3 B2.out.size (fun k hk => by cases hk)
    have W3p : Hid (w3p.ownsRow w.heap.size 35 8 (.slice a3p (0 + j) c3p) (0 + j) (flat (rs.take j))) := hown3
    clear hown3 hg3 B2
    simp only [Nat.zero_add] at W3p
    go_wp2_with fail
    refine (newRule_any true (some ⟨w3p.heap.size, 0, none⟩) 1 1 _).mono ?_
    rintro e w' ⟨rfl, hw⟩
    subst w'
    go_wp2_with (at_builtin; refine wpList_append_lies _ (by rfl) _ _ 25 (by rfl) w.heap.size 35 i0 _ 8 136 Try.underlying25 IP.out.1 IP.out.2.1 IP.out.2.2.1 IP.out.2.2.2 rfl (by omega) (.slice a3p j c3p) j (flat (rs.take j)) (by rfl) (((W3p.out.alloc _).alloc _).alloc _) ⟨w3p.heap.size + 1 + 1, 0, none⟩ 1 1 [.string ⟨#[]⟩, .int .i64 0, .int .i64 0, .slice none 0 0, .slice none 0 0, .slice (some ⟨w3p.heap.size, 0, none⟩) 1 1, .slice none 0 0, .bool true] (by rfl) (by rfl) (World.news_of_block (cs := #[.string ⟨#[]⟩, .int .i64 0, .int .i64 0, .slice none 0 0, .slice none 0 0, .slice (some ⟨w3p.heap.size, 0, none⟩) 1 1, .slice none 0 0, .bool true]) (t := 35) (fr := (0, 0)) (row_new ((w3p.alloc _).alloc _) _ _ (by simp))) (by simp [Value.oneCell']) (by omega) (by unfold maxLen; omega) (by omega) (by have := B3p.out.size; simp; omega) (w3p.heap.size + 1 + 1 + 1) (by simp) ?_; intro gp capp w4p hown4 hgrow4 hat hlt4)
    obtain ⟨b4, o4, h4, n4⟩ := mid_facts B3p.out W3p.out hown4 hgrow4 hat
    have B4p : Hid (Below w.heap.size w w4p) := b4
    have W4p : Hid (w4p.ownsRow w.heap.size 35 8 (.slice (some ⟨gp, 0, none⟩) (j + 1) capp) (j + 1) (flat (rs.take j ++ [(true, .slice (some ⟨w3p.heap.size, 0, none⟩) 1 1)]))) := o4
    have H4p : Hid (w4p.heap[w3p.heap.size]? = some (.cells #[.string hst] 9 (0, 0))) := h4
    have N4p : Hid (gp ≠ w3p.heap.size) := n4
    clear b4 o4 h4 n4 hown4 hgrow4 hat hlt4 B3p W3p
    refine (append_as w.heap.size (.slice (some ⟨gp, 0, none⟩) (j + 1) capp) (j + 1) (rs.take j ++ [(true, .slice (some ⟨w3p.heap.size, 0, none⟩) 1 1)]) aj (c - j) (rs.drop j) (len - j) (by rw [List.length_drop, ← HLN.out]) _ W4p.out B4p.out.size (HAJ.out.on B4p.out) (by omega)).mono ?_
    rintro e w5p ⟨a5p, c5p, rfl, hown5, hg5, _⟩
    obtain ⟨b5, h5⟩ := end_facts B4p.out W4p.out H4p.out N4p.out hg5
    have B5p : Hid (Below w.heap.size w w5p) := b5
    have H5p : Hid (w5p.heap[w3p.heap.size]? = some (.cells #[.string hst] 9 (0, 0))) := h5
    have W5p : Hid (w5p.ownsRow w.heap.size 35 8 (.slice a5p (j + 1 + (len - j)) c5p) (j + 1 + (len - j)) (flat (rs.take j ++ [(true, .slice (some ⟨w3p.heap.size, 0, none⟩) 1 1)] ++ rs.drop j))) := hown5
    clear b5 h5 hown5 hg5 B4p W4p H4p N4p
    go_wp2_with fail
    refine (newPolicy_any _ _ _ _).mono ?_
    rintro e w' ⟨rfl, hw⟩
    subst w'
    go_wp2_with fail
    refine (pass_any hst HH.out w5p.heap.size w.heap.size (.slice a5p (j + 1 + (len - j)) c5p) (rs.take j ++ [(true, .slice (some ⟨w3p.heap.size, 0, none⟩) 1 1)] ++ rs.drop j) (j + 1 + (len - j)) (by simp only [List.length_append, List.length_take, List.length_drop, List.length_cons, List.length_nil, ← HLN.out]; omega) (bs.take j ++ [true] ++ bs.drop j) _ (cell_of_row _ _ 0 _ 41 (0, 0) (heap_alloc_new w5p _)) (W5p.out.alloc _) (own_hits true HB.out (B5p.out.alloc B5p.out.size _) HH.out (row_alloc H5p.out _) j)).mono ?_
    rintro e w6p ⟨rfl, hb6⟩
    have B6p : Hid (Below w.heap.size w w6p) := (B5p.out.alloc B5p.out.size _).trans (hb6.mono (by have := B5p.out.size; simp; omega))
    rw [← HK1.out, ← HO1.out]
    clear hb6 B5p W5p H5p
    go_wp2_with fail
    refine (append_as w.heap.size (.slice none 0 0) 0 [] a c (rs.take j) j (by rw [List.length_take, ← HLN.out]; omega) _ (World.ownsRow_nil _ _ _ _) B6p.out.size ((HIN.out.1.on B6p.out).take j) (by omega)).mono ?_
    rintro e w3q ⟨a3q, c3q, rfl, hown3, hg3, _⟩
    have B3q : Hid (Below w.heap.size w w3q) := B6p.out.grown hg3 B6p.out.size (fun k hk => by cases hk)
    have W3q : Hid (w3q.ownsRow w.heap.size 35 8 (.slice a3q (0 + j) c3q) (0 + j) (flat (rs.take j))) := hown3
    clear hown3 hg3 B6p
    simp only [Nat.zero_add] at W3q
    go_wp2_with fail
    refine (newRule_any false (some ⟨w3q.heap.size, 0, none⟩) 1 1 _).mono ?_
    rintro e w' ⟨rfl, hw⟩
    subst w'
    go_wp2_with (at_builtin; refine wpList_append_lies _ (by rfl) _ _ 25 (by rfl) w.heap.size 35 i0 _ 8 136 Try.underlying25 IP.out.1 IP.out.2.1 IP.out.2.2.1 IP.out.2.2.2 rfl (by omega) (.slice a3q j c3q) j (flat (rs.take j)) (by rfl) (((W3q.out.alloc _).alloc _).alloc _) ⟨w3q.heap.size + 1 + 1, 0, none⟩ 1 1 [.string ⟨#[]⟩, .int .i64 0, .int .i64 0, .slice none 0 0, .slice none 0 0, .slice (some ⟨w3q.heap.size, 0, none⟩) 1 1, .slice none 0 0, .bool false] (by rfl) (by rfl) (World.news_of_block (cs := #[.string ⟨#[]⟩, .int .i64 0, .int .i64 0, .slice none 0 0, .slice none 0 0, .slice (some ⟨w3q.heap.size, 0, none⟩) 1 1, .slice none 0 0, .bool false]) (t := 35) (fr := (0, 0)) (row_new ((w3q.alloc _).alloc _) _ _ (by simp))) (by simp [Value.oneCell']) (by omega) (by unfold maxLen; omega) (by omega) (by have := B3q.out.size; simp; omega) (w3q.heap.size + 1 + 1 + 1) (by simp) ?_; intro gq capq w4q hown4 hgrow4 hat hlt4)
    obtain ⟨b4, o4, h4, n4⟩ := mid_facts B3q.out W3q.out hown4 hgrow4 hat
    have B4q : Hid (Below w.heap.size w w4q) := b4
    have W4q : Hid (w4q.ownsRow w.heap.size 35 8 (.slice (some ⟨gq, 0, none⟩) (j + 1) capq) (j + 1) (flat (rs.take j ++ [(false, .slice (some ⟨w3q.heap.size, 0, none⟩) 1 1)]))) := o4
    have H4q : Hid (w4q.heap[w3q.heap.size]? = some (.cells #[.string hst] 9 (0, 0))) := h4
    have N4q : Hid (gq ≠ w3q.heap.size) := n4
    clear b4 o4 h4 n4 hown4 hgrow4 hat hlt4 B3q W3q
    refine (append_as w.heap.size (.slice (some ⟨gq, 0, none⟩) (j + 1) capq) (j + 1) (rs.take j ++ [(false, .slice (some ⟨w3q.heap.size, 0, none⟩) 1 1)]) aj (c - j) (rs.drop j) (len - j) (by rw [List.length_drop, ← HLN.out]) _ W4q.out B4q.out.size (HAJ.out.on B4q.out) (by omega)).mono ?_
    rintro e w5q ⟨a5q, c5q, rfl, hown5, hg5, _⟩
    obtain ⟨b5, h5⟩ := end_facts B4q.out W4q.out H4q.out N4q.out hg5
    have B5q : Hid (Below w.heap.size w w5q) := b5
    have H5q : Hid (w5q.heap[w3q.heap.size]? = some (.cells #[.string hst] 9 (0, 0))) := h5
    have W5q : Hid (w5q.ownsRow w.heap.size 35 8 (.slice a5q (j + 1 + (len - j)) c5q) (j + 1 + (len - j)) (flat (rs.take j ++ [(false, .slice (some ⟨w3q.heap.size, 0, none⟩) 1 1)] ++ rs.drop j))) := hown5
    clear b5 h5 hown5 hg5 B4q W4q H4q N4q
    go_wp2_with fail
    refine (newPolicy_any _ _ _ _).mono ?_
    rintro e w' ⟨rfl, hw⟩
    subst w'
    go_wp2_with fail
    refine (pass_any hst HH.out w5q.heap.size w.heap.size (.slice a5q (j + 1 + (len - j)) c5q) (rs.take j ++ [(false, .slice (some ⟨w3q.heap.size, 0, none⟩) 1 1)] ++ rs.drop j) (j + 1 + (len - j)) (by simp only [List.length_append, List.length_take, List.length_drop, List.length_cons, List.length_nil, ← HLN.out]; omega) (bs.take j ++ [false] ++ bs.drop j) _ (cell_of_row _ _ 0 _ 41 (0, 0) (heap_alloc_new w5q _)) (W5q.out.alloc _) (own_hits false HB.out (B5q.out.alloc B5q.out.size _) HH.out (row_alloc H5q.out _) j)).mono ?_
    rintro e w6q ⟨rfl, hb6⟩
    have B6q : Hid (Below w.heap.size w w6q) := (B5q.out.alloc B5q.out.size _).trans (hb6.mono (by have := B5q.out.size; simp; omega))
    rw [← HK2.out, ← HO2.out]
    clear hb6 B5q W5q H5q
    go_wp2_with fail
    go_ret
    exact ⟨rfl, B6q.out⟩
end Go.Proofs.Qxb6629201a
