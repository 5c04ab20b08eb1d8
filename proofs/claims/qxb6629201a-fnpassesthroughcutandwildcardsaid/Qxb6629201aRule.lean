/-
  The walks of ZZnewRule, ZZnewPolicy and ptAppend.
-/
import Derived.Test.Qxb6629201aMatch
import Derived.StillTactics
import Derived.OwnWalk
import Derived.Laws.Pointers
import Derived.Deep.RegionHeld3
import Derived.Deep.AppendLies
import Derived.Deep.DrawnRows
namespace Go.Proofs.Qxb6629201a
open Go.RowKit
attribute [local go_sem ↓] Go.wp_at_zero Go.wp_at_succ

/-- A rule's eight cells. -/
def cells8 (r : Bool × Value) : List Value := [.string ⟨#[]⟩, .int .i64 0, .int .i64 0, .slice none 0 0, .slice none 0 0, r.2, .slice none 0 0, .bool r.1]
def flat (rs : List (Bool × Value)) : List Value := rs.flatMap cells8

theorem Try.info35 : (Try.prog.info? 35).map (fun i => (i.zero, i.size, i.bytes)) = some (some (.agg #[.string ⟨#[]⟩, .int .i64 0, .int .i64 0, .slice none 0 0, .slice none 0 0, .slice none 0 0, .slice none 0 0, .bool false]), 8, 136) := by kernel_rfl

set_option maxHeartbeats 400000 in
theorem newRule_any (p : Bool) (a : Option Addr) (n c : Nat) (w : World) :
    Calls Try.prog 10 #[.bool p, .slice a n c] w fun e w' => e = .returned (.agg #[.string ⟨#[]⟩, .int .i64 0, .int .i64 0, .slice none 0 0, .slice none 0 0, .slice a n c, .slice none 0 0, .bool p]) ∧
      w' = w.alloc (.cells #[.string ⟨#[]⟩, .int .i64 0, .int .i64 0, .slice none 0 0, .slice none 0 0, .slice a n c, .slice none 0 0, .bool p] 35) := by
  go_enter Try.func10, Try.ntmps10
  go_wp2
  exact bodyPost_ret (v := .agg #[.string ⟨#[]⟩, .int .i64 0, .int .i64 0, .slice none 0 0, .slice none 0 0, .slice a n c, .slice none 0 0, .bool p]) (by simp [results, Try.results10, go_sem]) rfl ⟨rfl, rfl⟩

set_option maxHeartbeats 400000 in
theorem newPolicy_any (a : Option Addr) (n c : Nat) (w : World) :
    Calls Try.prog 8 #[.slice a n c] w fun e w' => e = .returned (.pointer (some ⟨w.heap.size, 0, none⟩)) ∧ w' = w.alloc (.cells #[.slice a n c] 41) := by
  go_enter Try.func8, Try.ntmps8
  go_wp2
  go_ret
  exact ⟨rfl, rfl⟩

/-- The rules 'rs' (a flag and a slice each) lie at 'a', in a block below 'base'. -/
def RulesAt (base : Nat) (w : World) (a : Option Addr) (rs : List (Bool × Value)) : Prop :=
  rs = [] ∨ ∃ b off, a = some ⟨b, off, none⟩ ∧ b < base ∧ ∀ k (hk : k < rs.length), w.cell? ⟨b, off + k * 2, none⟩ = some (.bool rs[k].1) ∧ w.cell? ⟨b, off + k * 2 + 1, none⟩ = some rs[k].2 ∧ ∃ x y z, rs[k].2 = .slice x y z

theorem flat_snoc (ds : List (Bool × Value)) (r : Bool × Value) : flat (ds ++ [r]) = flat ds ++ cells8 r := by simp [flat]
theorem flat_length (ds : List (Bool × Value)) : (flat ds).length = ds.length * 8 := by
  induction ds with
  | nil => rfl
  | cons r ds ih => simp only [flat, List.flatMap_cons, List.length_append] at ih ⊢; rw [ih]; simp [cells8]; omega

/-- Where a slice's row lies, seen from a world: it is 'v''s own, or new. -/
def OwnOf (w : World) (v u : Value) : Prop := u.ownBlock = v.ownBlock ∨ ∃ g, u.ownBlock = some g ∧ w.heap.size ≤ g

theorem grown_step {w wr w2 w3 : World} {v u : Value} (h1 : w.grownBy wr v.ownBlock) (h2 : Below wr.heap.size wr w2) (ho : OwnOf w v u) (h3 : w2.grownBy w3 u.ownBlock) : w.grownBy w3 v.ownBlock := by
  refine ⟨by rw [h3.os, h2.os, h1.os], by rw [h3.tape, h2.tape, h1.tape], by rw [h3.output, h2.output, h1.output], Nat.le_trans h1.size (Nat.le_trans h2.size h3.size), fun k hk hne => ?_⟩
  have hk1 : k < wr.heap.size := Nat.lt_of_lt_of_le hk h1.size
  rw [h3.block k (Nat.lt_of_lt_of_le hk1 h2.size) ?_, h2.block k hk1, h1.block k hk hne]
  rcases ho with ho | ⟨g, ho, hg⟩
  · rw [ho]; exact hne
  · rw [ho]
    intro e
    cases e
    omega

theorem own_step {w wr : World} {v u : Value} (g n cap : Nat) (h1 : w.grownBy wr v.ownBlock) (ho : OwnOf w v u) (hat : u.ownBlock = some g ∨ g = wr.heap.size + 1 + 1) : OwnOf w v (.slice (some ⟨g, 0, none⟩) n cap) := by
  have e : (Value.slice (some ⟨g, 0, none⟩) n cap).ownBlock = some g := rfl
  have hs := h1.size
  rcases hat with hat | hat
  · rcases ho with ho | ⟨g', ho, hg⟩
    · exact Or.inl (by rw [e, ← hat, ho])
    · exact Or.inr ⟨g, e, by rw [hat] at ho; cases ho; exact hg⟩
  · exact Or.inr ⟨g, e, by omega⟩

theorem take_snoc_rule (rs : List (Bool × Value)) (k : Nat) (hk : k < rs.length) (p : Bool) (u : Value) (hp : p = rs[k].1) (hu : rs[k].2 = u) : rs.take (k + 1) = rs.take k ++ [(p, u)] := by
  rw [List.take_succ_eq_append_getElem hk, hp, ← hu]

set_option maxHeartbeats 2000000 in
set_option maxRecDepth 100000 in
theorem append_any (base : Nat) (v : Value) (n : Nat) (ds : List (Bool × Value)) (a : Option Addr) (c : Nat) (rs : List (Bool × Value)) (len : Nat) (hlen : len = rs.length) (w : World)
    (hown : w.ownsRow base 35 8 v n (flat ds)) (hbase : base ≤ w.heap.size) (hr : RulesAt base w a rs) (hsz : n + len ≤ 4194304) :
    Calls Try.prog 7 #[v, .slice a len c] w fun e w' => ∃ v', e = .returned v' ∧ w'.ownsRow base 35 8 v' (n + len) (flat (ds ++ rs)) ∧ w.grownBy w' v.ownBlock ∧ OwnOf w v v' := by
  obtain ⟨i0, hi0, hz0, hz1, hz2⟩ := info_parts Try.info35
  have HLN : Hid (len = rs.length) := hlen
  have HR : Hid (RulesAt base w a rs) := hr
  have HO : Hid (w.ownsRow base 35 8 v n (flat ds)) := hown
  have hv := hown.lt
  have HV : Hid _ := hv
  clear hlen hr hown hv
  go_enter Try.func7, Try.ntmps7
  go_wp2
  go_loopw [0, 5] (fun u i wr => ∃ k : Nat, k ≤ len ∧ i = .int .i64 k ∧ Hid (wr.ownsRow base 35 8 u (n + k) (flat (ds ++ rs.take k))) ∧ Hid (w.grownBy wr v.ownBlock) ∧ Hid (OwnOf w v u)) (fun _ i _ => len - (intOf i).toNat)
  case atStart => exact ⟨0, Nat.zero_le _, rfl, (by simpa using HO.out : w.ownsRow base 35 8 v (n + 0) (flat (ds ++ rs.take 0))), (⟨rfl, rfl, rfl, Nat.le_refl _, fun _ _ _ => rfl⟩ : w.grownBy w v.ownBlock), (Or.inl rfl : OwnOf w v v)⟩
  case round =>
    obtain ⟨k, hk, rfl, hown, hgr, hof⟩ := hrel
    by_cases hlt : k < len
    · have hkl : k < rs.length := by rw [← HLN.out]; exact hlt
      obtain ⟨b, off, rfl, hbb, hcells⟩ : ∃ b off, a = some ⟨b, off, none⟩ ∧ b < base ∧ ∀ k (hk : k < rs.length), w.cell? ⟨b, off + k * 2, none⟩ = some (.bool rs[k].1) ∧ w.cell? ⟨b, off + k * 2 + 1, none⟩ = some rs[k].2 ∧ ∃ x y z, rs[k].2 = .slice x y z := by
        rcases HR.out with h0 | h0
        · rw [h0] at hkl; simp at hkl
        · exact h0
      obtain ⟨h1, h2, x, y, z, h3⟩ := hcells k hkl
      obtain ⟨p, hp⟩ : ∃ p, p = rs[k].1 := ⟨_, rfl⟩
      rw [← hp] at h1
      rw [h3] at h2
      have hne : some b ≠ v.ownBlock := fun e => by have := (HV.out b e.symm).1; omega
      have g1 : wr.cell? ⟨b, off + k * 2, none⟩ = some (.bool p) := hgr.out.cell h1 hne
      have g2 : wr.cell? ⟨b, off + k * 2 + 1, none⟩ = some (.slice x y z) := hgr.out.cell h2 hne
      have H3 : Hid (rs[k].2 = .slice x y z) := h3
      have HP : Hid (p = rs[k].1) := hp
      have lb := World.block_lt_of_cell? wr _ g1
      have hk0 : (0 : Int) ≤ (k : Int) := Int.natCast_nonneg _
      have hk1 : (k : Int) < (len : Int) := by omega
      clear hcells h1 h2 h3 hp HR
      go_wp2_with fail
      have hne2 : some b ≠ u0.ownBlock := fun e => by have := (hown.out.lt b e.symm).1; omega
      have hby : (n + k + 1) * 136 ≤ 140737488355328 := by omega
      have hml : n + k + 1 ≤ maxLen := by unfold maxLen; omega
      have hwb : base ≤ wr.heap.size := Nat.le_trans hbase hgr.out.size
      go_region_held3 (fun w' => w'.cell? ⟨b, off + k * 2, none⟩ = some (.bool p) ∧ w'.cell? ⟨b, off + k * 2 + 1, none⟩ = some (.slice x y z))
        (first
          | go_keep
          | (go_split_ands
             refine ⟨?_, ?_⟩
             · (rw [hgrow.cell_far _ (by simp; omega) hne2]; assumption)
             · (rw [hgrow.cell_far _ (by simp; omega) hne2]; assumption)))
        ((first
          | (go_at_call 10; refine (newRule_any p x y z _).mono ?_; rintro e w' ⟨rfl, rfl⟩)
          | (refine step_append_lies _ (by rfl) _ _ _ (by rfl) base 35 i0 _ 8 136 Try.underlying25 hi0 hz0 hz1 hz2 rfl (by omega) u0 (n + k) (flat (ds ++ rs.take k)) (by rfl) (((hown.out.alloc _).alloc _).drew)
              ⟨wr.heap.size + 1, 0, none⟩ 1 1 [.string ⟨#[]⟩, .int .i64 0, .int .i64 0, .slice none 0 0, .slice none 0 0, .slice x y z, .slice none 0 0, .bool p] (by rfl) (by rfl) (World.news_of_block (cs := #[.string ⟨#[]⟩, .int .i64 0, .int .i64 0, .slice none 0 0, .slice none 0 0, .slice x y z, .slice none 0 0, .bool p]) (t := 35) (fr := (0, 0)) (heap_alloc2_new wr _ _)) (by simp [Value.oneCell'])
              (by omega) hml hby (by simp; omega) (wr.heap.size + 1 + 1) (by simp) ?_; intro g cap w1 hown1 hgrow hat hlt1)))
      have R1 : Hid (w1.ownsRow base 35 8 (.slice (some ⟨g, 0, none⟩) (n + k + 1) cap) (n + (k + 1)) (flat (ds ++ rs.take (k + 1)))) := by
        have e1 : flat (ds ++ rs.take (k + 1)) = flat (ds ++ rs.take k) ++ [.string ⟨#[]⟩, .int .i64 0, .int .i64 0, .slice none 0 0, .slice none 0 0, .slice x y z, .slice none 0 0, .bool p] := by
          rw [take_snoc_rule rs k hkl p (.slice x y z) HP.out H3.out, ← List.append_assoc, flat_snoc]
          rfl
        rw [e1]
        exact hown1
      have R2 : Hid (w.grownBy w1 v.ownBlock) := grown_step hgr.out ((((Below.refl _ _).alloc (Nat.le_refl _) _).alloc (by simp) _).drew) hof.out hgrow
      have R3 : Hid (OwnOf w v (.slice (some ⟨g, 0, none⟩) (n + k + 1) cap)) := own_step g (n + k + 1) cap hgr.out hof.out hat
      clear hown1 hgrow hat hown hgr hof g1 g2 hne2 hby hml hwb H3 HP lb
      go_wp2
      go_roundw
      case rel => exact ⟨k + 1, by omega, by go_num, R1, R2, R3⟩
      case measure => simp [intOf]; omega
    · have hkk : k = len := by omega
      go_wp2_with fail
      go_ret
      refine ⟨_, rfl, ?_, hgr.out, hof.out⟩
      have := hown.out
      rw [hkk, HLN.out, List.take_length, ← HLN.out] at this
      exact this
end Go.Proofs.Qxb6629201a
