/-
  The walks of the guards on sizes: ptSizeFits and the two zzBytes.
-/
import Derived.Test.Qxb6629201aPass
namespace Go.Proofs.Qxb6629201a
open Go.RowKit

/-- What came in: rules at 'a' below 'base', each with its hosts. -/
def In (base : Nat) (w : World) (a : Option Addr) (rs : List (Bool × Value)) : Prop :=
  RulesAt base w a rs ∧ rs.length ≤ maxLen ∧ ∀ r ∈ rs, ∃ hs, Hosts w r.2 hs

/-- One rule of those that came in. -/
theorem In.rule {base : Nat} {w : World} {a : Option Addr} {rs : List (Bool × Value)} (h : In base w a rs) (k : Nat) (hk : k < rs.length) :
    ∃ b off p x l c, a = some ⟨b, off, none⟩ ∧ w.cell? ⟨b, off + k * 2, none⟩ = some (.bool p) ∧ w.cell? ⟨b, off + k * 2 + 1, none⟩ = some (.slice x l.length c) ∧ Strs w x l := by
  obtain ⟨h1, h2, h3⟩ := h
  rcases h1 with h0 | ⟨b, off, ha, hb, hc⟩
  · rw [h0] at hk; simp at hk
  · obtain ⟨c1, c2, _⟩ := hc k hk
    obtain ⟨hs, hh⟩ := h3 rs[k] (List.getElem_mem hk)
    rcases hh with ⟨_, e⟩ | ⟨l, ad, c, _, e, hl⟩
    · rw [e] at c2
      exact ⟨b, off, _, none, [], 0, ha, c1, c2, ⟨Nat.zero_le _, by simp, Or.inl rfl⟩⟩
    · rw [e] at c2
      exact ⟨b, off, _, some ad, l, c, ha, c1, c2, hl⟩

theorem Strs.cell {w : World} {a : Option Addr} {l : List ByteArray} (h : Strs w a l) (k : Nat) (hk : k < l.length) : ∃ b off s, a = some ⟨b, off, none⟩ ∧ w.cell? ⟨b, off + k, none⟩ = some (.string s) ∧ s.size ≤ maxLen := by
  obtain ⟨_, h2, h0 | ⟨b, off, e, hc⟩⟩ := h
  · rw [h0] at hk; simp at hk
  · exact ⟨b, off, _, e, hc k hk, h2 _ (List.getElem_mem hk)⟩

/-- Both lengths are within the guard's bound. -/
def Small (n m : Nat) : Prop := n ≤ 1048576 ∧ m ≤ 1048576
theorem small_mk {n m : Nat} (h1 : n ≤ 1048576) (h2 : m ≤ 1048576) : Small n m := ⟨h1, h2⟩
/-- The answer is a bool, and where it is true, P. -/
def BoolIf (P : Prop) (e : Ending) : Prop := ∃ r : Bool, e = .returned (.bool r) ∧ (r = true → P)
theorem boolIf_false (P : Prop) : BoolIf P (.returned (.bool false)) := ⟨false, rfl, fun h => by cases h⟩
theorem boolIf_true {P : Prop} (h : P) : BoolIf P (.returned (.bool true)) := ⟨true, rfl, fun _ => h⟩

set_option maxHeartbeats 2000000 in
set_option maxRecDepth 100000 in
theorem fits_any (base : Nat) (a : Option Addr) (c : Nat) (rs : List (Bool × Value)) (len : Nat) (hlen : len = rs.length) (h : ByteArray) (_hh : h.size ≤ maxLen) (w : World) (hin : In base w a rs) :
    Calls Try.prog 6 #[.slice a len c, .string h] w fun e w' => BoolIf True e ∧ w' = w := by
  have hm : len ≤ maxLen := by rw [hlen]; exact hin.2.1
  have HLN : Hid (len = rs.length) := hlen
  have HIN : Hid (In base w a rs) := hin
  unfold maxLen at hm _hh
  clear hlen hin
  go_enter Try.func6, Try.ntmps6
  go_wp2
  · go_ret
    exact ⟨boolIf_false _, rfl⟩
  · go_loop [5, 6] (fun t i => ∃ k : Nat, k ≤ len ∧ i = .int .i64 k ∧ ∃ q : Int, t = .int .i64 q) (fun _ i => len - (intOf i).toNat)
    case atStart => exact ⟨0, Nat.zero_le _, rfl, _, rfl⟩
    case round =>
      obtain ⟨k, hk, rfl, q, rfl⟩ := hrel
      by_cases hlt : k < len
      · obtain ⟨b, off, p, x, l, c', ha, c1, c2, hl⟩ := HIN.out.rule k (by rw [← HLN.out]; exact hlt)
        subst ha
        obtain ⟨n, hn⟩ : ∃ n, n = l.length := ⟨_, rfl⟩
        rw [← hn] at c2
        have hnm : n ≤ maxLen := by rw [hn]; exact hl.1
        unfold maxLen at hnm
        have HN : Hid (n = l.length) := hn
        have HL : Hid (Strs w x l) := hl
        clear hn hl
        go_wp2
        · go_ret
          exact ⟨boolIf_false _, rfl⟩
        · go_ret
          exact ⟨boolIf_false _, rfl⟩
        · go_ret
          exact ⟨boolIf_false _, rfl⟩
        · go_loop [5, 8] (fun t i => ∃ m : Nat, m ≤ n ∧ i = .int .i64 m ∧ ∃ q : Int, t = .int .i64 q) (fun _ i => n - (intOf i).toNat)
          case atStart => exact ⟨0, Nat.zero_le _, rfl, _, rfl⟩
          case round =>
            obtain ⟨m, hm', rfl, q', rfl⟩ := hrel
            by_cases hlt' : m < n
            · obtain ⟨b2, off2, s, hx, c3, hs⟩ := HL.out.cell m (by rw [← HN.out]; exact hlt')
              subst hx
              unfold maxLen at hs
              go_wp2
              · go_ret
                exact ⟨boolIf_false _, rfl⟩
              · go_round
                case rel => exact ⟨m + 1, by omega, by go_num, _, rfl⟩
                case measure => simp [intOf]; omega
            · go_wp2
              go_round
              case rel => exact ⟨k + 1, by omega, by go_num, _, rfl⟩
              case measure => simp [intOf]; omega
      · go_wp2
        go_ret
        exact ⟨boolIf_true trivial, rfl⟩

set_option maxHeartbeats 2000000 in
set_option maxRecDepth 100000 in
theorem bytesA_any (base : Nat) (a : Option Addr) (c : Nat) (rs : List (Bool × Value)) (len : Nat) (hlen : len = rs.length) (j : Int) (h : ByteArray) (_hh : h.size ≤ maxLen) (w : World) (hin : In base w a rs) :
    Calls Try.prog 5 #[.slice a len c, .int .i64 j, .string h] w fun e w' => BoolIf (Small len h.size) e ∧ w' = w := by
  have hm : len ≤ maxLen := by rw [hlen]; exact hin.2.1
  have HLN : Hid (len = rs.length) := hlen
  have HIN : Hid (In base w a rs) := hin
  unfold maxLen at hm _hh
  clear hlen hin
  by_cases hbig : len ≤ 1048576
  · go_enter Try.func5, Try.ntmps5
    go_wp2
    go_loop [7, 8] (fun t i => ∃ k : Nat, k ≤ len ∧ i = .int .i64 k ∧ ∃ q : Int, 0 ≤ q ∧ q ≤ 1048576 ∧ t = .int .i64 q) (fun _ i => len - (intOf i).toNat)
    case atStart => exact ⟨0, Nat.zero_le _, rfl, _, by omega, by omega, rfl⟩
    case round =>
      obtain ⟨k, hk, rfl, q, hq0, hq1, rfl⟩ := hrel
      by_cases hlt : k < len
      · obtain ⟨b, off, p, x, l, c', ha, c1, c2, hl⟩ := HIN.out.rule k (by rw [← HLN.out]; exact hlt)
        subst ha
        obtain ⟨n, hn⟩ : ∃ n, n = l.length := ⟨_, rfl⟩
        rw [← hn] at c2
        have hnm : n ≤ maxLen := by rw [hn]; exact hl.1
        unfold maxLen at hnm
        have HN : Hid (n = l.length) := hn
        have HL : Hid (Strs w x l) := hl
        clear hn hl
        go_wp2
        · go_ret
          exact ⟨boolIf_false _, rfl⟩
        · go_ret
          exact ⟨boolIf_false _, rfl⟩
        · go_loop [7, 9] (fun t i => ∃ m : Nat, m ≤ n ∧ i = .int .i64 m ∧ ∃ q : Int, 0 ≤ q ∧ q ≤ 1048576 ∧ t = .int .i64 q) (fun _ i => n - (intOf i).toNat)
          case atStart => exact ⟨0, Nat.zero_le _, rfl, _, by omega, by omega, rfl⟩
          case round =>
            obtain ⟨m, hm', rfl, q', hq0', hq1', rfl⟩ := hrel
            by_cases hlt' : m < n
            · obtain ⟨b2, off2, s, hx, c3, hs⟩ := HL.out.cell m (by rw [← HN.out]; exact hlt')
              subst hx
              unfold maxLen at hs
              go_wp2
              · go_ret
                exact ⟨boolIf_false _, rfl⟩
              · go_ret
                exact ⟨boolIf_false _, rfl⟩
              · go_round
                case rel => exact ⟨m + 1, by omega, by go_num, _, by omega, by omega, rfl⟩
                case measure => simp [intOf]; omega
            · go_wp2
              go_round
              case rel => exact ⟨k + 1, by omega, by go_num, _, by omega, by omega, rfl⟩
              case measure => simp [intOf]; omega
      · go_wp2
        · go_ret
          exact ⟨boolIf_false _, rfl⟩
        · go_ret
          exact ⟨boolIf_false _, rfl⟩
        · go_ret
          exact ⟨boolIf_true (small_mk hbig (by omega)), rfl⟩
  · go_enter Try.func5, Try.ntmps5
    go_wp2
    go_ret
    exact ⟨boolIf_false _, rfl⟩

set_option maxHeartbeats 2000000 in
set_option maxRecDepth 100000 in
theorem bytesB_any (base : Nat) (a : Option Addr) (c : Nat) (rs : List (Bool × Value)) (len : Nat) (hlen : len = rs.length) (j s : Int) (h : ByteArray) (_hh : h.size ≤ maxLen) (w : World) (hin : In base w a rs) :
    Calls Try.prog 11 #[.slice a len c, .int .i64 j, .int .i64 s, .string h] w fun e w' => BoolIf (Small len h.size) e ∧ w' = w := by
  have hm : len ≤ maxLen := by rw [hlen]; exact hin.2.1
  have HLN : Hid (len = rs.length) := hlen
  have HIN : Hid (In base w a rs) := hin
  unfold maxLen at hm _hh
  clear hlen hin
  by_cases hbig : len ≤ 1048576
  · go_enter Try.func11, Try.ntmps11
    go_wp2
    go_loop [9, 10] (fun t i => ∃ k : Nat, k ≤ len ∧ i = .int .i64 k ∧ ∃ q : Int, 0 ≤ q ∧ q ≤ 1048576 ∧ t = .int .i64 q) (fun _ i => len - (intOf i).toNat)
    case atStart => exact ⟨0, Nat.zero_le _, rfl, _, by omega, by omega, rfl⟩
    case round =>
      obtain ⟨k, hk, rfl, q, hq0, hq1, rfl⟩ := hrel
      by_cases hlt : k < len
      · obtain ⟨b, off, p, x, l, c', ha, c1, c2, hl⟩ := HIN.out.rule k (by rw [← HLN.out]; exact hlt)
        subst ha
        obtain ⟨n, hn⟩ : ∃ n, n = l.length := ⟨_, rfl⟩
        rw [← hn] at c2
        have hnm : n ≤ maxLen := by rw [hn]; exact hl.1
        unfold maxLen at hnm
        have HN : Hid (n = l.length) := hn
        have HL : Hid (Strs w x l) := hl
        clear hn hl
        go_wp2
        · go_ret
          exact ⟨boolIf_false _, rfl⟩
        · go_ret
          exact ⟨boolIf_false _, rfl⟩
        · go_loop [9, 11] (fun t i => ∃ m : Nat, m ≤ n ∧ i = .int .i64 m ∧ ∃ q : Int, 0 ≤ q ∧ q ≤ 1048576 ∧ t = .int .i64 q) (fun _ i => n - (intOf i).toNat)
          case atStart => exact ⟨0, Nat.zero_le _, rfl, _, by omega, by omega, rfl⟩
          case round =>
            obtain ⟨m, hm', rfl, q', hq0', hq1', rfl⟩ := hrel
            by_cases hlt' : m < n
            · obtain ⟨b2, off2, s2, hx, c3, hs⟩ := HL.out.cell m (by rw [← HN.out]; exact hlt')
              subst hx
              unfold maxLen at hs
              go_wp2
              · go_ret
                exact ⟨boolIf_false _, rfl⟩
              · go_ret
                exact ⟨boolIf_false _, rfl⟩
              · go_round
                case rel => exact ⟨m + 1, by omega, by go_num, _, by omega, by omega, rfl⟩
                case measure => simp [intOf]; omega
            · go_wp2
              go_round
              case rel => exact ⟨k + 1, by omega, by go_num, _, by omega, by omega, rfl⟩
              case measure => simp [intOf]; omega
      · go_wp2
        · go_ret
          exact ⟨boolIf_false _, rfl⟩
        · go_ret
          exact ⟨boolIf_false _, rfl⟩
        · go_ret
          exact ⟨boolIf_true (small_mk hbig (by omega)), rfl⟩
  · go_enter Try.func11, Try.ntmps11
    go_wp2
    go_ret
    exact ⟨boolIf_false _, rfl⟩
end Go.Proofs.Qxb6629201a
