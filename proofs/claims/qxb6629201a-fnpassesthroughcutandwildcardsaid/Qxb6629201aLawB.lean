/-
  The walk of the law FnPassesThroughCutAndWildcard.
-/
import Derived.Test.Qxb6629201aWild
namespace Go.Proofs.Qxb6629201a
open Go.RowKit

/-- The hits with a pass-through rule put in at j, whose one entry matches the host. -/
theorem entry_hits (p : Bool) {w w5 : World} {rs : List (Bool × Value)} {h e : ByteArray} {bs : List Bool} {B : Nat} (hh : HitsAt w rs h bs) (hb : Below w.heap.size w w5) (he : hm h e = true) (hs : e.size ≤ maxLen) (hB : w5.heap[B]? = some (.cells #[.string e] 9 (0, 0))) (j : Nat) :
    HitsAt w5 (rs.take j ++ [(p, .slice (some ⟨B, 0, none⟩) 1 1)] ++ rs.drop j) h (bs.take j ++ [p] ++ bs.drop j) := by
  have h1 := HitsAt.one (h := h) p B hs hB
  rw [he, Bool.and_true] at h1
  exact (((hh.take j).on hb).append h1).append ((hh.drop j).on hb)

set_option maxHeartbeats 4000000 in
set_option maxRecDepth 100000 in
theorem lawB_walk (a : Option Addr) (c len : Nat) (hlc : len ≤ c) (_hcm : c ≤ maxLen) (rs : List (Bool × Value)) (hlen : len = rs.length) (j : Nat) (hj : j ≤ len) (s : Nat) (hst : ByteArray) (hsj : s ≤ hst.size) (hh : hst.size ≤ maxLen) (bs : List Bool) (w : World)
    (ex : ByteArray) (hex : (⟨#[42]⟩ : ByteArray) ++ hst.extract s hst.size = ex) (hexm : hm hst ex = true ∧ ex.size ≤ maxLen)
    (hin : In w.heap.size w a rs) (hb : HitsAt w rs hst bs) (Oww Opp Oss Oxx : Bool) (Kw Kp Ks Kx : Int)
    (hKw : Kw = ansK bs) (hOw : Oww = ansO bs) (hKp : Kp = ansK (bs.take j)) (hOp : Opp = ansO (bs.take j)) (hKs : Ks = ansK (bs.drop j)) (hOs : Oss = ansO (bs.drop j)) (hKx : Kx = ansK (bs.take j ++ [true] ++ bs.drop j)) (hOx : Oxx = ansO (bs.take j ++ [true] ++ bs.drop j))
    (hcase : (Opp = true ∧ 1 ≤ Kp ∧ Kp ≤ j ∧ Oss = true ∧ 1 ≤ Ks ∧ Ks ≤ len - j ∧ Oww = true ∧ Kw = Kp ∧ Oxx = true ∧ Kx = Kp) ∨ (Opp = true ∧ 1 ≤ Kp ∧ Kp ≤ j ∧ Oss = false ∧ Oww = true ∧ Kw = Kp ∧ Oxx = true ∧ Kx = Kp) ∨
      (Opp = false ∧ Oss = true ∧ 1 ≤ Ks ∧ Ks ≤ len - j ∧ Oww = true ∧ Kw = j + Ks ∧ Oxx = true ∧ Kx = j + 1) ∨ (Opp = false ∧ Oss = false ∧ Oww = false ∧ Kw = 0 ∧ Oxx = true ∧ Kx = j + 1)) :
    Calls Try.prog 4 #[.slice a len c, .int .i64 j, .int .i64 s, .string hst] w fun e w' => e = .returned (.bool true) ∧ Below w.heap.size w w' := by
  obtain ⟨aj, haj⟩ : ∃ aj, (if c = j then a else Option.map (fun x => x.add (j * 2)) a) = aj := ⟨_, rfl⟩
  have HAJ : Hid (RulesAt w.heap.size w aj (rs.drop j)) := drop_at hin.1 c j (by omega) aj haj
  have HEX : Hid (hm hst ex = true ∧ ex.size ≤ maxLen) := hexm
  have HIN : Hid (In w.heap.size w a rs) := hin
  have HB : Hid (HitsAt w rs hst bs) := hb
  have HLN : Hid (len = rs.length) := hlen
  have HH : Hid (hst.size ≤ maxLen) := hh
  have HKw : Hid (Kw = ansK bs) := hKw
  have HOw : Hid (Oww = ansO bs) := hOw
  have HKp : Hid (Kp = ansK (bs.take j)) := hKp
  have HOp : Hid (Opp = ansO (bs.take j)) := hOp
  have HKs : Hid (Ks = ansK (bs.drop j)) := hKs
  have HOs : Hid (Oss = ansO (bs.drop j)) := hOs
  have HKx : Hid (Kx = ansK (bs.take j ++ [true] ++ bs.drop j)) := hKx
  have HOx : Hid (Oxx = ansO (bs.take j ++ [true] ++ bs.drop j)) := hOx
  obtain ⟨i0, hi0, hz0, hz1, hz2⟩ := info_parts Try.info35
  have IP : Hid (Try.prog.info? 35 = some i0 ∧ _ ∧ _ ∧ _) := ⟨hi0, hz0, hz1, hz2⟩
  unfold maxLen at hh _hcm
  clear hin hb hlen hKw hOw hKp hOp hKs hOs hKx hOx hi0 hz0 hz1 hz2 hexm
  rcases hcase with ⟨rfl, q1, q2, rfl, q3, q4, rfl, rfl, rfl, rfl⟩ | ⟨rfl, q1, q2, rfl, rfl, rfl, rfl, rfl⟩ | ⟨rfl, rfl, q3, q4, rfl, rfl, rfl, rfl⟩ | ⟨rfl, rfl, rfl, rfl, rfl, rfl⟩
  · rw [if_neg (by omega)] at haj
    go_enter Try.func4, Try.ntmps4
    go_wp2_with fail
    refine (bytesB_any w.heap.size a c rs len HLN.out j s hst HH.out _ HIN.out).mono ?_
    rintro e w' ⟨⟨r, rfl, hr⟩, hw⟩
    subst w'
    cases r
    · clear hr
      go_wp2_with fail
      go_ret
      exact ⟨rfl, Below.refl _ _⟩
    have hsm := (hr rfl).1
    have hsh := (hr rfl).2
    clear hr
    go_wp2_with fail
    refine (fits_any w.heap.size a c rs len HLN.out hst HH.out _ HIN.out).mono ?_
    rintro e w' ⟨⟨r, rfl, hr⟩, hw⟩
    subst w'
    clear hr
    cases r
    · go_wp2_with fail
      go_ret
      exact ⟨rfl, Below.refl _ _⟩
    have B0 : Hid (Below w.heap.size w w) := Below.refl _ _
    go_wp2_with fail
    refine (append_as w.heap.size (.slice none 0 0) 0 [] a c rs len HLN.out _ (World.ownsRow_nil _ _ _ _) B0.out.size (HIN.out.1.on B0.out) (by omega)).mono ?_
    rintro e waw ⟨a1w, c1w, rfl, hown1, hg1, _⟩
    have BAw : Hid (Below w.heap.size w waw) := B0.out.grown hg1 B0.out.size (fun k hk => by cases hk)
    have WAw : Hid (waw.ownsRow w.heap.size 35 8 (.slice a1w (0 + len) c1w) (0 + len) (flat rs)) := hown1
    clear hown1 hg1 B0
    simp only [Nat.zero_add] at WAw
    go_wp2_with fail
    refine (newPolicy_any _ _ _ _).mono ?_
    rintro e w' ⟨rfl, hw⟩
    subst w'
    go_wp2_with fail
    refine (pass_any hst HH.out waw.heap.size w.heap.size (.slice a1w len c1w) rs len HLN.out bs _ (cell_of_row _ _ 0 _ 41 (0, 0) (heap_alloc_new waw _)) (WAw.out.alloc _) ((HB.out).on (BAw.out.alloc BAw.out.size _))).mono ?_
    rintro e wbw ⟨rfl, hb2⟩
    have BBw : Hid (Below w.heap.size w wbw) := (BAw.out.alloc BAw.out.size _).trans (hb2.mono (by have := BAw.out.size; simp; omega))
    rw [← HKw.out, ← HOw.out]
    clear hb2 WAw BAw
    go_wp2_with fail
    refine (append_as w.heap.size (.slice none 0 0) 0 [] a c (rs.take j) j (by rw [List.length_take, ← HLN.out]; omega) _ (World.ownsRow_nil _ _ _ _) BBw.out.size ((HIN.out.1.on BBw.out).take j) (by omega)).mono ?_
    rintro e wap ⟨a1p, c1p, rfl, hown1, hg1, _⟩
    have BAp : Hid (Below w.heap.size w wap) := BBw.out.grown hg1 BBw.out.size (fun k hk => by cases hk)
    have WAp : Hid (wap.ownsRow w.heap.size 35 8 (.slice a1p (0 + j) c1p) (0 + j) (flat (rs.take j))) := hown1
    clear hown1 hg1 BBw
    simp only [Nat.zero_add] at WAp
    go_wp2_with fail
    refine (newPolicy_any _ _ _ _).mono ?_
    rintro e w' ⟨rfl, hw⟩
    subst w'
    go_wp2_with fail
    refine (pass_any hst HH.out wap.heap.size w.heap.size (.slice a1p j c1p) (rs.take j) j (by rw [List.length_take, ← HLN.out]; omega) (bs.take j) _ (cell_of_row _ _ 0 _ 41 (0, 0) (heap_alloc_new wap _)) (WAp.out.alloc _) ((HB.out.take j).on (BAp.out.alloc BAp.out.size _))).mono ?_
    rintro e wbp ⟨rfl, hb2⟩
    have BBp : Hid (Below w.heap.size w wbp) := (BAp.out.alloc BAp.out.size _).trans (hb2.mono (by have := BAp.out.size; simp; omega))
    rw [← HKp.out, ← HOp.out]
    clear hb2 WAp BAp
    go_wp2_with fail
    refine (append_as w.heap.size (.slice none 0 0) 0 [] aj (c - j) (rs.drop j) (len - j) (by rw [List.length_drop, ← HLN.out]) _ (World.ownsRow_nil _ _ _ _) BBp.out.size (HAJ.out.on BBp.out) (by omega)).mono ?_
    rintro e was ⟨a1s, c1s, rfl, hown1, hg1, _⟩
    have BAs : Hid (Below w.heap.size w was) := BBp.out.grown hg1 BBp.out.size (fun k hk => by cases hk)
    have WAs : Hid (was.ownsRow w.heap.size 35 8 (.slice a1s (0 + (len - j)) c1s) (0 + (len - j)) (flat (rs.drop j))) := hown1
    clear hown1 hg1 BBp
    simp only [Nat.zero_add] at WAs
    go_wp2_with fail
    refine (newPolicy_any _ _ _ _).mono ?_
    rintro e w' ⟨rfl, hw⟩
    subst w'
    go_wp2_with fail
    refine (pass_any hst HH.out was.heap.size w.heap.size (.slice a1s (len - j) c1s) (rs.drop j) (len - j) (by rw [List.length_drop, ← HLN.out]) (bs.drop j) _ (cell_of_row _ _ 0 _ 41 (0, 0) (heap_alloc_new was _)) (WAs.out.alloc _) ((HB.out.drop j).on (BAs.out.alloc BAs.out.size _))).mono ?_
    rintro e wbs ⟨rfl, hb2⟩
    have BBs : Hid (Below w.heap.size w wbs) := (BAs.out.alloc BAs.out.size _).trans (hb2.mono (by have := BAs.out.size; simp; omega))
    rw [← HKs.out, ← HOs.out]
    clear hb2 WAs BAs
    go_wp2_with fail
    refine (append_as w.heap.size (.slice none 0 0) 0 [] a c (rs.take j) j (by rw [List.length_take, ← HLN.out]; omega) _ (World.ownsRow_nil _ _ _ _) BBs.out.size ((HIN.out.1.on BBs.out).take j) (by omega)).mono ?_
    rintro e w3x ⟨a3x, c3x, rfl, hown3, hg3, _⟩
    have B3x : Hid (Below w.heap.size w w3x) := BBs.out.grown hg3 BBs.out.size (fun k hk => by cases hk)
    have W3x : Hid (w3x.ownsRow w.heap.size 35 8 (.slice a3x (0 + j) c3x) (0 + j) (flat (rs.take j))) := hown3
    clear hown3 hg3 BBs
    simp only [Nat.zero_add] at W3x
    go_wp2_with fail
    refine (newRule_any true (some ⟨w3x.heap.size, 0, none⟩) 1 1 _).mono ?_
    rintro e w' ⟨rfl, hw⟩
    subst w'
    go_wp2_with (at_builtin; refine wpList_append_lies _ (by rfl) _ _ 25 (by rfl) w.heap.size 35 i0 _ 8 136 Try.underlying25 IP.out.1 IP.out.2.1 IP.out.2.2.1 IP.out.2.2.2 rfl (by omega) (.slice a3x j c3x) j (flat (rs.take j)) (by rfl) (((W3x.out.alloc _).alloc _).alloc _) ⟨w3x.heap.size + 1 + 1, 0, none⟩ 1 1 [.string ⟨#[]⟩, .int .i64 0, .int .i64 0, .slice none 0 0, .slice none 0 0, .slice (some ⟨w3x.heap.size, 0, none⟩) 1 1, .slice none 0 0, .bool true] (by rfl) (by rfl) (World.news_of_block (cs := #[.string ⟨#[]⟩, .int .i64 0, .int .i64 0, .slice none 0 0, .slice none 0 0, .slice (some ⟨w3x.heap.size, 0, none⟩) 1 1, .slice none 0 0, .bool true]) (t := 35) (fr := (0, 0)) (row_new ((w3x.alloc _).alloc _) _ _ (by simp))) (by simp [Value.oneCell']) (by omega) (by unfold maxLen; omega) (by omega) (by have := B3x.out.size; simp; omega) (w3x.heap.size + 1 + 1 + 1) (by simp) ?_; intro gx capx w4x hown4 hgrow4 hat hlt4)
    obtain ⟨b4, o4, h4, n4⟩ := mid_facts B3x.out W3x.out hown4 hgrow4 hat
    have B4x : Hid (Below w.heap.size w w4x) := b4
    have W4x : Hid (w4x.ownsRow w.heap.size 35 8 (.slice (some ⟨gx, 0, none⟩) (j + 1) capx) (j + 1) (flat (rs.take j ++ [(true, .slice (some ⟨w3x.heap.size, 0, none⟩) 1 1)]))) := o4
    have H4x : Hid (w4x.heap[w3x.heap.size]? = some (.cells #[.string ex] 9 (0, 0))) := h4
    have N4x : Hid (gx ≠ w3x.heap.size) := n4
    clear b4 o4 h4 n4 hown4 hgrow4 hat hlt4 B3x W3x
    refine (append_as w.heap.size (.slice (some ⟨gx, 0, none⟩) (j + 1) capx) (j + 1) (rs.take j ++ [(true, .slice (some ⟨w3x.heap.size, 0, none⟩) 1 1)]) aj (c - j) (rs.drop j) (len - j) (by rw [List.length_drop, ← HLN.out]) _ W4x.out B4x.out.size (HAJ.out.on B4x.out) (by omega)).mono ?_
    rintro e w5x ⟨a5x, c5x, rfl, hown5, hg5, _⟩
    obtain ⟨b5, h5⟩ := end_facts B4x.out W4x.out H4x.out N4x.out hg5
    have B5x : Hid (Below w.heap.size w w5x) := b5
    have H5x : Hid (w5x.heap[w3x.heap.size]? = some (.cells #[.string ex] 9 (0, 0))) := h5
    have W5x : Hid (w5x.ownsRow w.heap.size 35 8 (.slice a5x (j + 1 + (len - j)) c5x) (j + 1 + (len - j)) (flat (rs.take j ++ [(true, .slice (some ⟨w3x.heap.size, 0, none⟩) 1 1)] ++ rs.drop j))) := hown5
    clear b5 h5 hown5 hg5 B4x W4x H4x N4x
    go_wp2_with fail
    refine (newPolicy_any _ _ _ _).mono ?_
    rintro e w' ⟨rfl, hw⟩
    subst w'
    go_wp2_with fail
    refine (pass_any hst HH.out w5x.heap.size w.heap.size (.slice a5x (j + 1 + (len - j)) c5x) (rs.take j ++ [(true, .slice (some ⟨w3x.heap.size, 0, none⟩) 1 1)] ++ rs.drop j) (j + 1 + (len - j)) (by simp only [List.length_append, List.length_take, List.length_drop, List.length_cons, List.length_nil, ← HLN.out]; omega) (bs.take j ++ [true] ++ bs.drop j) _ (cell_of_row _ _ 0 _ 41 (0, 0) (heap_alloc_new w5x _)) (W5x.out.alloc _) (entry_hits true HB.out (B5x.out.alloc B5x.out.size _) HEX.out.1 HEX.out.2 (row_alloc H5x.out _) j)).mono ?_
    rintro e w6x ⟨rfl, hb6⟩
    have B6x : Hid (Below w.heap.size w w6x) := (B5x.out.alloc B5x.out.size _).trans (hb6.mono (by have := B5x.out.size; simp; omega))
    rw [← HKx.out, ← HOx.out]
    clear hb6 B5x W5x H5x
    go_wp2_with fail
    go_ret
    exact ⟨rfl, B6x.out⟩
  · go_enter Try.func4, Try.ntmps4
    go_wp2_with fail
    refine (bytesB_any w.heap.size a c rs len HLN.out j s hst HH.out _ HIN.out).mono ?_
    rintro e w' ⟨⟨r, rfl, hr⟩, hw⟩
    subst w'
    cases r
    · clear hr
      go_wp2_with fail
      go_ret
      exact ⟨rfl, Below.refl _ _⟩
    have hsm := (hr rfl).1
    have hsh := (hr rfl).2
    clear hr
    go_wp2_with fail
    refine (fits_any w.heap.size a c rs len HLN.out hst HH.out _ HIN.out).mono ?_
    rintro e w' ⟨⟨r, rfl, hr⟩, hw⟩
    subst w'
    clear hr
    cases r
    · go_wp2_with fail
      go_ret
      exact ⟨rfl, Below.refl _ _⟩
    have B0 : Hid (Below w.heap.size w w) := Below.refl _ _
    go_wp2_with fail
    refine (append_as w.heap.size (.slice none 0 0) 0 [] a c rs len HLN.out _ (World.ownsRow_nil _ _ _ _) B0.out.size (HIN.out.1.on B0.out) (by omega)).mono ?_
    rintro e waw ⟨a1w, c1w, rfl, hown1, hg1, _⟩
    have BAw : Hid (Below w.heap.size w waw) := B0.out.grown hg1 B0.out.size (fun k hk => by cases hk)
    have WAw : Hid (waw.ownsRow w.heap.size 35 8 (.slice a1w (0 + len) c1w) (0 + len) (flat rs)) := hown1
    clear hown1 hg1 B0
    simp only [Nat.zero_add] at WAw
    go_wp2_with fail
    refine (newPolicy_any _ _ _ _).mono ?_
    rintro e w' ⟨rfl, hw⟩
    subst w'
    go_wp2_with fail
    refine (pass_any hst HH.out waw.heap.size w.heap.size (.slice a1w len c1w) rs len HLN.out bs _ (cell_of_row _ _ 0 _ 41 (0, 0) (heap_alloc_new waw _)) (WAw.out.alloc _) ((HB.out).on (BAw.out.alloc BAw.out.size _))).mono ?_
    rintro e wbw ⟨rfl, hb2⟩
    have BBw : Hid (Below w.heap.size w wbw) := (BAw.out.alloc BAw.out.size _).trans (hb2.mono (by have := BAw.out.size; simp; omega))
    rw [← HKw.out, ← HOw.out]
    clear hb2 WAw BAw
    go_wp2_with fail
    refine (append_as w.heap.size (.slice none 0 0) 0 [] a c (rs.take j) j (by rw [List.length_take, ← HLN.out]; omega) _ (World.ownsRow_nil _ _ _ _) BBw.out.size ((HIN.out.1.on BBw.out).take j) (by omega)).mono ?_
    rintro e wap ⟨a1p, c1p, rfl, hown1, hg1, _⟩
    have BAp : Hid (Below w.heap.size w wap) := BBw.out.grown hg1 BBw.out.size (fun k hk => by cases hk)
    have WAp : Hid (wap.ownsRow w.heap.size 35 8 (.slice a1p (0 + j) c1p) (0 + j) (flat (rs.take j))) := hown1
    clear hown1 hg1 BBw
    simp only [Nat.zero_add] at WAp
    go_wp2_with fail
    refine (newPolicy_any _ _ _ _).mono ?_
    rintro e w' ⟨rfl, hw⟩
    subst w'
    go_wp2_with fail
    refine (pass_any hst HH.out wap.heap.size w.heap.size (.slice a1p j c1p) (rs.take j) j (by rw [List.length_take, ← HLN.out]; omega) (bs.take j) _ (cell_of_row _ _ 0 _ 41 (0, 0) (heap_alloc_new wap _)) (WAp.out.alloc _) ((HB.out.take j).on (BAp.out.alloc BAp.out.size _))).mono ?_
    rintro e wbp ⟨rfl, hb2⟩
    have BBp : Hid (Below w.heap.size w wbp) := (BAp.out.alloc BAp.out.size _).trans (hb2.mono (by have := BAp.out.size; simp; omega))
    rw [← HKp.out, ← HOp.out]
    clear hb2 WAp BAp
    go_wp2_with fail
    refine (append_as w.heap.size (.slice none 0 0) 0 [] aj (c - j) (rs.drop j) (len - j) (by rw [List.length_drop, ← HLN.out]) _ (World.ownsRow_nil _ _ _ _) BBp.out.size (HAJ.out.on BBp.out) (by omega)).mono ?_
    rintro e was ⟨a1s, c1s, rfl, hown1, hg1, _⟩
    have BAs : Hid (Below w.heap.size w was) := BBp.out.grown hg1 BBp.out.size (fun k hk => by cases hk)
    have WAs : Hid (was.ownsRow w.heap.size 35 8 (.slice a1s (0 + (len - j)) c1s) (0 + (len - j)) (flat (rs.drop j))) := hown1
    clear hown1 hg1 BBp
    simp only [Nat.zero_add] at WAs
    go_wp2_with fail
    refine (newPolicy_any _ _ _ _).mono ?_
    rintro e w' ⟨rfl, hw⟩
    subst w'
    go_wp2_with fail
    refine (pass_any hst HH.out was.heap.size w.heap.size (.slice a1s (len - j) c1s) (rs.drop j) (len - j) (by rw [List.length_drop, ← HLN.out]) (bs.drop j) _ (cell_of_row _ _ 0 _ 41 (0, 0) (heap_alloc_new was _)) (WAs.out.alloc _) ((HB.out.drop j).on (BAs.out.alloc BAs.out.size _))).mono ?_
    rintro e wbs ⟨rfl, hb2⟩
    have BBs : Hid (Below w.heap.size w wbs) := (BAs.out.alloc BAs.out.size _).trans (hb2.mono (by have := BAs.out.size; simp; omega))
    rw [← HKs.out, ← HOs.out]
    clear hb2 WAs BAs
    go_wp2_with fail
    refine (append_as w.heap.size (.slice none 0 0) 0 [] a c (rs.take j) j (by rw [List.length_take, ← HLN.out]; omega) _ (World.ownsRow_nil _ _ _ _) BBs.out.size ((HIN.out.1.on BBs.out).take j) (by omega)).mono ?_
    rintro e w3x ⟨a3x, c3x, rfl, hown3, hg3, _⟩
    have B3x : Hid (Below w.heap.size w w3x) := BBs.out.grown hg3 BBs.out.size (fun k hk => by cases hk)
    have W3x : Hid (w3x.ownsRow w.heap.size 35 8 (.slice a3x (0 + j) c3x) (0 + j) (flat (rs.take j))) := hown3
    clear hown3 hg3 BBs
    simp only [Nat.zero_add] at W3x
    go_wp2_with fail
    refine (newRule_any true (some ⟨w3x.heap.size, 0, none⟩) 1 1 _).mono ?_
    rintro e w' ⟨rfl, hw⟩
    subst w'
    go_wp2_with (at_builtin; refine wpList_append_lies _ (by rfl) _ _ 25 (by rfl) w.heap.size 35 i0 _ 8 136 Try.underlying25 IP.out.1 IP.out.2.1 IP.out.2.2.1 IP.out.2.2.2 rfl (by omega) (.slice a3x j c3x) j (flat (rs.take j)) (by rfl) (((W3x.out.alloc _).alloc _).alloc _) ⟨w3x.heap.size + 1 + 1, 0, none⟩ 1 1 [.string ⟨#[]⟩, .int .i64 0, .int .i64 0, .slice none 0 0, .slice none 0 0, .slice (some ⟨w3x.heap.size, 0, none⟩) 1 1, .slice none 0 0, .bool true] (by rfl) (by rfl) (World.news_of_block (cs := #[.string ⟨#[]⟩, .int .i64 0, .int .i64 0, .slice none 0 0, .slice none 0 0, .slice (some ⟨w3x.heap.size, 0, none⟩) 1 1, .slice none 0 0, .bool true]) (t := 35) (fr := (0, 0)) (row_new ((w3x.alloc _).alloc _) _ _ (by simp))) (by simp [Value.oneCell']) (by omega) (by unfold maxLen; omega) (by omega) (by have := B3x.out.size; simp; omega) (w3x.heap.size + 1 + 1 + 1) (by simp) ?_; intro gx capx w4x hown4 hgrow4 hat hlt4)
    obtain ⟨b4, o4, h4, n4⟩ := mid_facts B3x.out W3x.out hown4 hgrow4 hat
    have B4x : Hid (Below w.heap.size w w4x) := b4
    have W4x : Hid (w4x.ownsRow w.heap.size 35 8 (.slice (some ⟨gx, 0, none⟩) (j + 1) capx) (j + 1) (flat (rs.take j ++ [(true, .slice (some ⟨w3x.heap.size, 0, none⟩) 1 1)]))) := o4
    have H4x : Hid (w4x.heap[w3x.heap.size]? = some (.cells #[.string ex] 9 (0, 0))) := h4
    have N4x : Hid (gx ≠ w3x.heap.size) := n4
    clear b4 o4 h4 n4 hown4 hgrow4 hat hlt4 B3x W3x
    refine (append_as w.heap.size (.slice (some ⟨gx, 0, none⟩) (j + 1) capx) (j + 1) (rs.take j ++ [(true, .slice (some ⟨w3x.heap.size, 0, none⟩) 1 1)]) aj (c - j) (rs.drop j) (len - j) (by rw [List.length_drop, ← HLN.out]) _ W4x.out B4x.out.size (HAJ.out.on B4x.out) (by omega)).mono ?_
    rintro e w5x ⟨a5x, c5x, rfl, hown5, hg5, _⟩
    obtain ⟨b5, h5⟩ := end_facts B4x.out W4x.out H4x.out N4x.out hg5
    have B5x : Hid (Below w.heap.size w w5x) := b5
    have H5x : Hid (w5x.heap[w3x.heap.size]? = some (.cells #[.string ex] 9 (0, 0))) := h5
    have W5x : Hid (w5x.ownsRow w.heap.size 35 8 (.slice a5x (j + 1 + (len - j)) c5x) (j + 1 + (len - j)) (flat (rs.take j ++ [(true, .slice (some ⟨w3x.heap.size, 0, none⟩) 1 1)] ++ rs.drop j))) := hown5
    clear b5 h5 hown5 hg5 B4x W4x H4x N4x
    go_wp2_with fail
    refine (newPolicy_any _ _ _ _).mono ?_
    rintro e w' ⟨rfl, hw⟩
    subst w'
    go_wp2_with fail
    refine (pass_any hst HH.out w5x.heap.size w.heap.size (.slice a5x (j + 1 + (len - j)) c5x) (rs.take j ++ [(true, .slice (some ⟨w3x.heap.size, 0, none⟩) 1 1)] ++ rs.drop j) (j + 1 + (len - j)) (by simp only [List.length_append, List.length_take, List.length_drop, List.length_cons, List.length_nil, ← HLN.out]; omega) (bs.take j ++ [true] ++ bs.drop j) _ (cell_of_row _ _ 0 _ 41 (0, 0) (heap_alloc_new w5x _)) (W5x.out.alloc _) (entry_hits true HB.out (B5x.out.alloc B5x.out.size _) HEX.out.1 HEX.out.2 (row_alloc H5x.out _) j)).mono ?_
    rintro e w6x ⟨rfl, hb6⟩
    have B6x : Hid (Below w.heap.size w w6x) := (B5x.out.alloc B5x.out.size _).trans (hb6.mono (by have := B5x.out.size; simp; omega))
    rw [← HKx.out, ← HOx.out]
    clear hb6 B5x W5x H5x
    go_wp2_with fail
    go_ret
    exact ⟨rfl, B6x.out⟩
  · rw [if_neg (by omega)] at haj
    go_enter Try.func4, Try.ntmps4
    go_wp2_with fail
    refine (bytesB_any w.heap.size a c rs len HLN.out j s hst HH.out _ HIN.out).mono ?_
    rintro e w' ⟨⟨r, rfl, hr⟩, hw⟩
    subst w'
    cases r
    · clear hr
      go_wp2_with fail
      go_ret
      exact ⟨rfl, Below.refl _ _⟩
    have hsm := (hr rfl).1
    have hsh := (hr rfl).2
    clear hr
    go_wp2_with fail
    refine (fits_any w.heap.size a c rs len HLN.out hst HH.out _ HIN.out).mono ?_
    rintro e w' ⟨⟨r, rfl, hr⟩, hw⟩
    subst w'
    clear hr
    cases r
    · go_wp2_with fail
      go_ret
      exact ⟨rfl, Below.refl _ _⟩
    have B0 : Hid (Below w.heap.size w w) := Below.refl _ _
    go_wp2_with fail
    refine (append_as w.heap.size (.slice none 0 0) 0 [] a c rs len HLN.out _ (World.ownsRow_nil _ _ _ _) B0.out.size (HIN.out.1.on B0.out) (by omega)).mono ?_
    rintro e waw ⟨a1w, c1w, rfl, hown1, hg1, _⟩
    have BAw : Hid (Below w.heap.size w waw) := B0.out.grown hg1 B0.out.size (fun k hk => by cases hk)
    have WAw : Hid (waw.ownsRow w.heap.size 35 8 (.slice a1w (0 + len) c1w) (0 + len) (flat rs)) := hown1
    clear hown1 hg1 B0
    simp only [Nat.zero_add] at WAw
    go_wp2_with fail
    refine (newPolicy_any _ _ _ _).mono ?_
    rintro e w' ⟨rfl, hw⟩
    subst w'
    go_wp2_with fail
    refine (pass_any hst HH.out waw.heap.size w.heap.size (.slice a1w len c1w) rs len HLN.out bs _ (cell_of_row _ _ 0 _ 41 (0, 0) (heap_alloc_new waw _)) (WAw.out.alloc _) ((HB.out).on (BAw.out.alloc BAw.out.size _))).mono ?_
    rintro e wbw ⟨rfl, hb2⟩
    have BBw : Hid (Below w.heap.size w wbw) := (BAw.out.alloc BAw.out.size _).trans (hb2.mono (by have := BAw.out.size; simp; omega))
    rw [← HKw.out, ← HOw.out]
    clear hb2 WAw BAw
    go_wp2_with fail
    refine (append_as w.heap.size (.slice none 0 0) 0 [] a c (rs.take j) j (by rw [List.length_take, ← HLN.out]; omega) _ (World.ownsRow_nil _ _ _ _) BBw.out.size ((HIN.out.1.on BBw.out).take j) (by omega)).mono ?_
    rintro e wap ⟨a1p, c1p, rfl, hown1, hg1, _⟩
    have BAp : Hid (Below w.heap.size w wap) := BBw.out.grown hg1 BBw.out.size (fun k hk => by cases hk)
    have WAp : Hid (wap.ownsRow w.heap.size 35 8 (.slice a1p (0 + j) c1p) (0 + j) (flat (rs.take j))) := hown1
    clear hown1 hg1 BBw
    simp only [Nat.zero_add] at WAp
    go_wp2_with fail
    refine (newPolicy_any _ _ _ _).mono ?_
    rintro e w' ⟨rfl, hw⟩
    subst w'
    go_wp2_with fail
    refine (pass_any hst HH.out wap.heap.size w.heap.size (.slice a1p j c1p) (rs.take j) j (by rw [List.length_take, ← HLN.out]; omega) (bs.take j) _ (cell_of_row _ _ 0 _ 41 (0, 0) (heap_alloc_new wap _)) (WAp.out.alloc _) ((HB.out.take j).on (BAp.out.alloc BAp.out.size _))).mono ?_
    rintro e wbp ⟨rfl, hb2⟩
    have BBp : Hid (Below w.heap.size w wbp) := (BAp.out.alloc BAp.out.size _).trans (hb2.mono (by have := BAp.out.size; simp; omega))
    rw [← HKp.out, ← HOp.out]
    clear hb2 WAp BAp
    go_wp2_with fail
    refine (append_as w.heap.size (.slice none 0 0) 0 [] aj (c - j) (rs.drop j) (len - j) (by rw [List.length_drop, ← HLN.out]) _ (World.ownsRow_nil _ _ _ _) BBp.out.size (HAJ.out.on BBp.out) (by omega)).mono ?_
    rintro e was ⟨a1s, c1s, rfl, hown1, hg1, _⟩
    have BAs : Hid (Below w.heap.size w was) := BBp.out.grown hg1 BBp.out.size (fun k hk => by cases hk)
    have WAs : Hid (was.ownsRow w.heap.size 35 8 (.slice a1s (0 + (len - j)) c1s) (0 + (len - j)) (flat (rs.drop j))) := hown1
    clear hown1 hg1 BBp
    simp only [Nat.zero_add] at WAs
    go_wp2_with fail
    refine (newPolicy_any _ _ _ _).mono ?_
    rintro e w' ⟨rfl, hw⟩
    subst w'
    go_wp2_with fail
    refine (pass_any hst HH.out was.heap.size w.heap.size (.slice a1s (len - j) c1s) (rs.drop j) (len - j) (by rw [List.length_drop, ← HLN.out]) (bs.drop j) _ (cell_of_row _ _ 0 _ 41 (0, 0) (heap_alloc_new was _)) (WAs.out.alloc _) ((HB.out.drop j).on (BAs.out.alloc BAs.out.size _))).mono ?_
    rintro e wbs ⟨rfl, hb2⟩
    have BBs : Hid (Below w.heap.size w wbs) := (BAs.out.alloc BAs.out.size _).trans (hb2.mono (by have := BAs.out.size; simp; omega))
    rw [← HKs.out, ← HOs.out]
    clear hb2 WAs BAs
    go_wp2_with fail
    refine (append_as w.heap.size (.slice none 0 0) 0 [] a c (rs.take j) j (by rw [List.length_take, ← HLN.out]; omega) _ (World.ownsRow_nil _ _ _ _) BBs.out.size ((HIN.out.1.on BBs.out).take j) (by omega)).mono ?_
    rintro e w3x ⟨a3x, c3x, rfl, hown3, hg3, _⟩
    have B3x : Hid (Below w.heap.size w w3x) := BBs.out.grown hg3 BBs.out.size (fun k hk => by cases hk)
    have W3x : Hid (w3x.ownsRow w.heap.size 35 8 (.slice a3x (0 + j) c3x) (0 + j) (flat (rs.take j))) := hown3
    clear hown3 hg3 BBs
    simp only [Nat.zero_add] at W3x
    go_wp2_with fail
    refine (newRule_any true (some ⟨w3x.heap.size, 0, none⟩) 1 1 _).mono ?_
    rintro e w' ⟨rfl, hw⟩
    subst w'
    go_wp2_with (at_builtin; refine wpList_append_lies _ (by rfl) _ _ 25 (by rfl) w.heap.size 35 i0 _ 8 136 Try.underlying25 IP.out.1 IP.out.2.1 IP.out.2.2.1 IP.out.2.2.2 rfl (by omega) (.slice a3x j c3x) j (flat (rs.take j)) (by rfl) (((W3x.out.alloc _).alloc _).alloc _) ⟨w3x.heap.size + 1 + 1, 0, none⟩ 1 1 [.string ⟨#[]⟩, .int .i64 0, .int .i64 0, .slice none 0 0, .slice none 0 0, .slice (some ⟨w3x.heap.size, 0, none⟩) 1 1, .slice none 0 0, .bool true] (by rfl) (by rfl) (World.news_of_block (cs := #[.string ⟨#[]⟩, .int .i64 0, .int .i64 0, .slice none 0 0, .slice none 0 0, .slice (some ⟨w3x.heap.size, 0, none⟩) 1 1, .slice none 0 0, .bool true]) (t := 35) (fr := (0, 0)) (row_new ((w3x.alloc _).alloc _) _ _ (by simp))) (by simp [Value.oneCell']) (by omega) (by unfold maxLen; omega) (by omega) (by have := B3x.out.size; simp; omega) (w3x.heap.size + 1 + 1 + 1) (by simp) ?_; intro gx capx w4x hown4 hgrow4 hat hlt4)
    obtain ⟨b4, o4, h4, n4⟩ := mid_facts B3x.out W3x.out hown4 hgrow4 hat
    have B4x : Hid (Below w.heap.size w w4x) := b4
    have W4x : Hid (w4x.ownsRow w.heap.size 35 8 (.slice (some ⟨gx, 0, none⟩) (j + 1) capx) (j + 1) (flat (rs.take j ++ [(true, .slice (some ⟨w3x.heap.size, 0, none⟩) 1 1)]))) := o4
    have H4x : Hid (w4x.heap[w3x.heap.size]? = some (.cells #[.string ex] 9 (0, 0))) := h4
    have N4x : Hid (gx ≠ w3x.heap.size) := n4
    clear b4 o4 h4 n4 hown4 hgrow4 hat hlt4 B3x W3x
    refine (append_as w.heap.size (.slice (some ⟨gx, 0, none⟩) (j + 1) capx) (j + 1) (rs.take j ++ [(true, .slice (some ⟨w3x.heap.size, 0, none⟩) 1 1)]) aj (c - j) (rs.drop j) (len - j) (by rw [List.length_drop, ← HLN.out]) _ W4x.out B4x.out.size (HAJ.out.on B4x.out) (by omega)).mono ?_
    rintro e w5x ⟨a5x, c5x, rfl, hown5, hg5, _⟩
    obtain ⟨b5, h5⟩ := end_facts B4x.out W4x.out H4x.out N4x.out hg5
    have B5x : Hid (Below w.heap.size w w5x) := b5
    have H5x : Hid (w5x.heap[w3x.heap.size]? = some (.cells #[.string ex] 9 (0, 0))) := h5
    have W5x : Hid (w5x.ownsRow w.heap.size 35 8 (.slice a5x (j + 1 + (len - j)) c5x) (j + 1 + (len - j)) (flat (rs.take j ++ [(true, .slice (some ⟨w3x.heap.size, 0, none⟩) 1 1)] ++ rs.drop j))) := hown5
    clear b5 h5 hown5 hg5 B4x W4x H4x N4x
    go_wp2_with fail
    refine (newPolicy_any _ _ _ _).mono ?_
    rintro e w' ⟨rfl, hw⟩
    subst w'
    go_wp2_with fail
    refine (pass_any hst HH.out w5x.heap.size w.heap.size (.slice a5x (j + 1 + (len - j)) c5x) (rs.take j ++ [(true, .slice (some ⟨w3x.heap.size, 0, none⟩) 1 1)] ++ rs.drop j) (j + 1 + (len - j)) (by simp only [List.length_append, List.length_take, List.length_drop, List.length_cons, List.length_nil, ← HLN.out]; omega) (bs.take j ++ [true] ++ bs.drop j) _ (cell_of_row _ _ 0 _ 41 (0, 0) (heap_alloc_new w5x _)) (W5x.out.alloc _) (entry_hits true HB.out (B5x.out.alloc B5x.out.size _) HEX.out.1 HEX.out.2 (row_alloc H5x.out _) j)).mono ?_
    rintro e w6x ⟨rfl, hb6⟩
    have B6x : Hid (Below w.heap.size w w6x) := (B5x.out.alloc B5x.out.size _).trans (hb6.mono (by have := B5x.out.size; simp; omega))
    rw [← HKx.out, ← HOx.out]
    clear hb6 B5x W5x H5x
    go_wp2_with fail
    go_ret
    exact ⟨rfl, B6x.out⟩
  · go_enter Try.func4, Try.ntmps4
    go_wp2_with fail
    refine (bytesB_any w.heap.size a c rs len HLN.out j s hst HH.out _ HIN.out).mono ?_
    rintro e w' ⟨⟨r, rfl, hr⟩, hw⟩
    subst w'
    cases r
    · clear hr
      go_wp2_with fail
      go_ret
      exact ⟨rfl, Below.refl _ _⟩
    have hsm := (hr rfl).1
    have hsh := (hr rfl).2
    clear hr
    go_wp2_with fail
    refine (fits_any w.heap.size a c rs len HLN.out hst HH.out _ HIN.out).mono ?_
    rintro e w' ⟨⟨r, rfl, hr⟩, hw⟩
    subst w'
    clear hr
    cases r
    · go_wp2_with fail
      go_ret
      exact ⟨rfl, Below.refl _ _⟩
    have B0 : Hid (Below w.heap.size w w) := Below.refl _ _
    go_wp2_with fail
    refine (append_as w.heap.size (.slice none 0 0) 0 [] a c rs len HLN.out _ (World.ownsRow_nil _ _ _ _) B0.out.size (HIN.out.1.on B0.out) (by omega)).mono ?_
    rintro e waw ⟨a1w, c1w, rfl, hown1, hg1, _⟩
    have BAw : Hid (Below w.heap.size w waw) := B0.out.grown hg1 B0.out.size (fun k hk => by cases hk)
    have WAw : Hid (waw.ownsRow w.heap.size 35 8 (.slice a1w (0 + len) c1w) (0 + len) (flat rs)) := hown1
    clear hown1 hg1 B0
    simp only [Nat.zero_add] at WAw
    go_wp2_with fail
    refine (newPolicy_any _ _ _ _).mono ?_
    rintro e w' ⟨rfl, hw⟩
    subst w'
    go_wp2_with fail
    refine (pass_any hst HH.out waw.heap.size w.heap.size (.slice a1w len c1w) rs len HLN.out bs _ (cell_of_row _ _ 0 _ 41 (0, 0) (heap_alloc_new waw _)) (WAw.out.alloc _) ((HB.out).on (BAw.out.alloc BAw.out.size _))).mono ?_
    rintro e wbw ⟨rfl, hb2⟩
    have BBw : Hid (Below w.heap.size w wbw) := (BAw.out.alloc BAw.out.size _).trans (hb2.mono (by have := BAw.out.size; simp; omega))
    rw [← HKw.out, ← HOw.out]
    clear hb2 WAw BAw
    go_wp2_with fail
    refine (append_as w.heap.size (.slice none 0 0) 0 [] a c (rs.take j) j (by rw [List.length_take, ← HLN.out]; omega) _ (World.ownsRow_nil _ _ _ _) BBw.out.size ((HIN.out.1.on BBw.out).take j) (by omega)).mono ?_
    rintro e wap ⟨a1p, c1p, rfl, hown1, hg1, _⟩
    have BAp : Hid (Below w.heap.size w wap) := BBw.out.grown hg1 BBw.out.size (fun k hk => by cases hk)
    have WAp : Hid (wap.ownsRow w.heap.size 35 8 (.slice a1p (0 + j) c1p) (0 + j) (flat (rs.take j))) := hown1
    clear hown1 hg1 BBw
    simp only [Nat.zero_add] at WAp
    go_wp2_with fail
    refine (newPolicy_any _ _ _ _).mono ?_
    rintro e w' ⟨rfl, hw⟩
    subst w'
    go_wp2_with fail
    refine (pass_any hst HH.out wap.heap.size w.heap.size (.slice a1p j c1p) (rs.take j) j (by rw [List.length_take, ← HLN.out]; omega) (bs.take j) _ (cell_of_row _ _ 0 _ 41 (0, 0) (heap_alloc_new wap _)) (WAp.out.alloc _) ((HB.out.take j).on (BAp.out.alloc BAp.out.size _))).mono ?_
    rintro e wbp ⟨rfl, hb2⟩
    have BBp : Hid (Below w.heap.size w wbp) := (BAp.out.alloc BAp.out.size _).trans (hb2.mono (by have := BAp.out.size; simp; omega))
    rw [← HKp.out, ← HOp.out]
    clear hb2 WAp BAp
    go_wp2_with fail
    refine (append_as w.heap.size (.slice none 0 0) 0 [] aj (c - j) (rs.drop j) (len - j) (by rw [List.length_drop, ← HLN.out]) _ (World.ownsRow_nil _ _ _ _) BBp.out.size (HAJ.out.on BBp.out) (by omega)).mono ?_
    rintro e was ⟨a1s, c1s, rfl, hown1, hg1, _⟩
    have BAs : Hid (Below w.heap.size w was) := BBp.out.grown hg1 BBp.out.size (fun k hk => by cases hk)
    have WAs : Hid (was.ownsRow w.heap.size 35 8 (.slice a1s (0 + (len - j)) c1s) (0 + (len - j)) (flat (rs.drop j))) := hown1
    clear hown1 hg1 BBp
    simp only [Nat.zero_add] at WAs
    go_wp2_with fail
    refine (newPolicy_any _ _ _ _).mono ?_
    rintro e w' ⟨rfl, hw⟩
    subst w'
    go_wp2_with fail
    refine (pass_any hst HH.out was.heap.size w.heap.size (.slice a1s (len - j) c1s) (rs.drop j) (len - j) (by rw [List.length_drop, ← HLN.out]) (bs.drop j) _ (cell_of_row _ _ 0 _ 41 (0, 0) (heap_alloc_new was _)) (WAs.out.alloc _) ((HB.out.drop j).on (BAs.out.alloc BAs.out.size _))).mono ?_
    rintro e wbs ⟨rfl, hb2⟩
    have BBs : Hid (Below w.heap.size w wbs) := (BAs.out.alloc BAs.out.size _).trans (hb2.mono (by have := BAs.out.size; simp; omega))
    rw [← HKs.out, ← HOs.out]
    clear hb2 WAs BAs
    go_wp2_with fail
    refine (append_as w.heap.size (.slice none 0 0) 0 [] a c (rs.take j) j (by rw [List.length_take, ← HLN.out]; omega) _ (World.ownsRow_nil _ _ _ _) BBs.out.size ((HIN.out.1.on BBs.out).take j) (by omega)).mono ?_
    rintro e w3x ⟨a3x, c3x, rfl, hown3, hg3, _⟩
    have B3x : Hid (Below w.heap.size w w3x) := BBs.out.grown hg3 BBs.out.size (fun k hk => by cases hk)
    have W3x : Hid (w3x.ownsRow w.heap.size 35 8 (.slice a3x (0 + j) c3x) (0 + j) (flat (rs.take j))) := hown3
    clear hown3 hg3 BBs
    simp only [Nat.zero_add] at W3x
    go_wp2_with fail
    refine (newRule_any true (some ⟨w3x.heap.size, 0, none⟩) 1 1 _).mono ?_
    rintro e w' ⟨rfl, hw⟩
    subst w'
    go_wp2_with (at_builtin; refine wpList_append_lies _ (by rfl) _ _ 25 (by rfl) w.heap.size 35 i0 _ 8 136 Try.underlying25 IP.out.1 IP.out.2.1 IP.out.2.2.1 IP.out.2.2.2 rfl (by omega) (.slice a3x j c3x) j (flat (rs.take j)) (by rfl) (((W3x.out.alloc _).alloc _).alloc _) ⟨w3x.heap.size + 1 + 1, 0, none⟩ 1 1 [.string ⟨#[]⟩, .int .i64 0, .int .i64 0, .slice none 0 0, .slice none 0 0, .slice (some ⟨w3x.heap.size, 0, none⟩) 1 1, .slice none 0 0, .bool true] (by rfl) (by rfl) (World.news_of_block (cs := #[.string ⟨#[]⟩, .int .i64 0, .int .i64 0, .slice none 0 0, .slice none 0 0, .slice (some ⟨w3x.heap.size, 0, none⟩) 1 1, .slice none 0 0, .bool true]) (t := 35) (fr := (0, 0)) (row_new ((w3x.alloc _).alloc _) _ _ (by simp))) (by simp [Value.oneCell']) (by omega) (by unfold maxLen; omega) (by omega) (by have := B3x.out.size; simp; omega) (w3x.heap.size + 1 + 1 + 1) (by simp) ?_; intro gx capx w4x hown4 hgrow4 hat hlt4)
    obtain ⟨b4, o4, h4, n4⟩ := mid_facts B3x.out W3x.out hown4 hgrow4 hat
    have B4x : Hid (Below w.heap.size w w4x) := b4
    have W4x : Hid (w4x.ownsRow w.heap.size 35 8 (.slice (some ⟨gx, 0, none⟩) (j + 1) capx) (j + 1) (flat (rs.take j ++ [(true, .slice (some ⟨w3x.heap.size, 0, none⟩) 1 1)]))) := o4
    have H4x : Hid (w4x.heap[w3x.heap.size]? = some (.cells #[.string ex] 9 (0, 0))) := h4
    have N4x : Hid (gx ≠ w3x.heap.size) := n4
    clear b4 o4 h4 n4 hown4 hgrow4 hat hlt4 B3x W3x
    refine (append_as w.heap.size (.slice (some ⟨gx, 0, none⟩) (j + 1) capx) (j + 1) (rs.take j ++ [(true, .slice (some ⟨w3x.heap.size, 0, none⟩) 1 1)]) aj (c - j) (rs.drop j) (len - j) (by rw [List.length_drop, ← HLN.out]) _ W4x.out B4x.out.size (HAJ.out.on B4x.out) (by omega)).mono ?_
    rintro e w5x ⟨a5x, c5x, rfl, hown5, hg5, _⟩
    obtain ⟨b5, h5⟩ := end_facts B4x.out W4x.out H4x.out N4x.out hg5
    have B5x : Hid (Below w.heap.size w w5x) := b5
    have H5x : Hid (w5x.heap[w3x.heap.size]? = some (.cells #[.string ex] 9 (0, 0))) := h5
    have W5x : Hid (w5x.ownsRow w.heap.size 35 8 (.slice a5x (j + 1 + (len - j)) c5x) (j + 1 + (len - j)) (flat (rs.take j ++ [(true, .slice (some ⟨w3x.heap.size, 0, none⟩) 1 1)] ++ rs.drop j))) := hown5
    clear b5 h5 hown5 hg5 B4x W4x H4x N4x
    go_wp2_with fail
    refine (newPolicy_any _ _ _ _).mono ?_
    rintro e w' ⟨rfl, hw⟩
    subst w'
    go_wp2_with fail
    refine (pass_any hst HH.out w5x.heap.size w.heap.size (.slice a5x (j + 1 + (len - j)) c5x) (rs.take j ++ [(true, .slice (some ⟨w3x.heap.size, 0, none⟩) 1 1)] ++ rs.drop j) (j + 1 + (len - j)) (by simp only [List.length_append, List.length_take, List.length_drop, List.length_cons, List.length_nil, ← HLN.out]; omega) (bs.take j ++ [true] ++ bs.drop j) _ (cell_of_row _ _ 0 _ 41 (0, 0) (heap_alloc_new w5x _)) (W5x.out.alloc _) (entry_hits true HB.out (B5x.out.alloc B5x.out.size _) HEX.out.1 HEX.out.2 (row_alloc H5x.out _) j)).mono ?_
    rintro e w6x ⟨rfl, hb6⟩
    have B6x : Hid (Below w.heap.size w w6x) := (B5x.out.alloc B5x.out.size _).trans (hb6.mono (by have := B5x.out.size; simp; omega))
    rw [← HKx.out, ← HOx.out]
    clear hb6 B5x W5x H5x
    go_wp2_with fail
    go_ret
    exact ⟨rfl, B6x.out⟩
end Go.Proofs.Qxb6629201a
