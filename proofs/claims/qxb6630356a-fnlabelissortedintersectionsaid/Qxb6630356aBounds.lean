/-
  THE FUNCTIONS THAT BOUND THE INPUT: zzBytes (twice), zzlRowsTooBig.
-/
import Derived.Test.Qxb6630356aBase
namespace Go.Proofs.Qxb6630356a
open Go.RowKit

theorem rowOf {rows : List (List ByteArray)} {n k : Nat} (hl : rows.length = n) (hk : k < n) : ∃ l, rows[k]? = some l := ⟨rows[k]'(by omega), List.getElem?_eq_getElem _⟩

/-- Some bool came back. -/
def AnyBool (e : Ending) : Prop := ∃ b : Bool, e = .returned (.bool b)

set_option maxHeartbeats 2000000 in
theorem bytes5_any (ao : Option Addr) (n cap : Nat) (a b : Int) (rows : List (List ByteArray)) (hl : rows.length = n) (hn : n ≤ maxLen) (hr : ∀ (r : Nat) (l : List ByteArray), rows[r]? = some l → l.length ≤ maxLen) (w : World) (hm : Mat w ao rows) :
    Calls Try.prog 5 #[.slice ao n cap, .int .i64 a, .int .i64 b] w fun e w' => AnyBool e ∧ w' = w := by
  have HL := hid_mk hl
  have HR := hid_mk hr
  have HM := hid_mk hm
  clear hl hr hm
  unfold maxLen at hn
  go_enter Try.func5, Try.ntmps5
  go_wp2
  all_goals try (go_ret; exact ⟨⟨_, rfl⟩, rfl⟩)
  go_loop [7, 8] (fun c d => ∃ (z : Int) (k : Nat), c = .int .i64 z ∧ d = .int .i64 k ∧ k ≤ n) (fun _ d => n - (intOf d).toNat)
  case atStart => exact ⟨_, 0, rfl, rfl, Nat.zero_le _⟩
  case round =>
    obtain ⟨z, k, rfl, rfl, hk⟩ := hrel
    by_cases hlt : k < n
    · obtain ⟨l, hl⟩ := rowOf HL.out hlt
      obtain ⟨b, o, a, c, e1, hc1, _, hs⟩ := HM.out k l hl
      have hlm := HR.out k l hl
      obtain ⟨L, hL⟩ : ∃ L, l.length = L := ⟨_, rfl⟩
      rw [hL] at hc1 hlm
      unfold maxLen at hlm
      subst e1
      have HS := hid_mk hs
      have HLl := hid_mk hL
      clear hs hL hl
      go_wp2
      all_goals try (go_ret; exact ⟨⟨_, rfl⟩, rfl⟩)
      go_loop [7, 9] (fun c d => ∃ (z : Int) (j : Nat), c = .int .i64 z ∧ d = .int .i64 j ∧ j ≤ L) (fun _ d => L - (intOf d).toNat)
      case atStart => exact ⟨_, 0, rfl, rfl, Nat.zero_le _⟩
      case round =>
        obtain ⟨z2, j, rfl, rfl, hj⟩ := hrel
        by_cases hjl : j < L
        · obtain ⟨x, hx⟩ := getOf HLl.out hjl
          obtain ⟨b2, o2, e2, hc2⟩ := HS.out j x hx
          subst e2
          clear hx
          go_wp2
          all_goals try (go_ret; exact ⟨⟨_, rfl⟩, rfl⟩)
          all_goals
            go_round
            case rel => exact ⟨_, j + 1, rfl, by go_num, by omega⟩
            case measure => simp [intOf]; omega
        · go_wp2
          go_round
          case rel => exact ⟨_, k + 1, rfl, by go_num, by omega⟩
          case measure => simp [intOf]; omega
    · go_wp2
      go_ret
      exact ⟨⟨_, rfl⟩, rfl⟩
set_option maxHeartbeats 2000000 in
theorem bytes13_any (ao : Option Addr) (n cap : Nat) (a b : Int) (rows : List (List ByteArray)) (hl : rows.length = n) (hn : n ≤ maxLen) (hr : ∀ (r : Nat) (l : List ByteArray), rows[r]? = some l → l.length ≤ maxLen) (w : World) (hm : Mat w ao rows) :
    Calls Try.prog 13 #[.slice ao n cap, .int .i64 a, .int .i64 b] w fun e w' => AnyBool e ∧ w' = w := by
  have HL := hid_mk hl
  have HR := hid_mk hr
  have HM := hid_mk hm
  clear hl hr hm
  unfold maxLen at hn
  go_enter Try.func13, Try.ntmps13
  go_wp2
  all_goals try (go_ret; exact ⟨⟨_, rfl⟩, rfl⟩)
  go_loop [7, 8] (fun c d => ∃ (z : Int) (k : Nat), c = .int .i64 z ∧ d = .int .i64 k ∧ k ≤ n) (fun _ d => n - (intOf d).toNat)
  case atStart => exact ⟨_, 0, rfl, rfl, Nat.zero_le _⟩
  case round =>
    obtain ⟨z, k, rfl, rfl, hk⟩ := hrel
    by_cases hlt : k < n
    · obtain ⟨l, hl⟩ := rowOf HL.out hlt
      obtain ⟨b, o, a, c, e1, hc1, _, hs⟩ := HM.out k l hl
      have hlm := HR.out k l hl
      obtain ⟨L, hL⟩ : ∃ L, l.length = L := ⟨_, rfl⟩
      rw [hL] at hc1 hlm
      unfold maxLen at hlm
      subst e1
      have HS := hid_mk hs
      have HLl := hid_mk hL
      clear hs hL hl
      go_wp2
      all_goals try (go_ret; exact ⟨⟨_, rfl⟩, rfl⟩)
      go_loop [7, 9] (fun c d => ∃ (z : Int) (j : Nat), c = .int .i64 z ∧ d = .int .i64 j ∧ j ≤ L) (fun _ d => L - (intOf d).toNat)
      case atStart => exact ⟨_, 0, rfl, rfl, Nat.zero_le _⟩
      case round =>
        obtain ⟨z2, j, rfl, rfl, hj⟩ := hrel
        by_cases hjl : j < L
        · obtain ⟨x, hx⟩ := getOf HLl.out hjl
          obtain ⟨b2, o2, e2, hc2⟩ := HS.out j x hx
          subst e2
          clear hx
          go_wp2
          all_goals try (go_ret; exact ⟨⟨_, rfl⟩, rfl⟩)
          all_goals
            go_round
            case rel => exact ⟨_, j + 1, rfl, by go_num, by omega⟩
            case measure => simp [intOf]; omega
        · go_wp2
          go_round
          case rel => exact ⟨_, k + 1, rfl, by go_num, by omega⟩
          case measure => simp [intOf]; omega
    · go_wp2
      go_ret
      exact ⟨⟨_, rfl⟩, rfl⟩
set_option maxHeartbeats 2000000 in
/-- zzlRowsTooBig: where it says no, every row is of bounded length. -/
theorem big_any (ao : Option Addr) (n cap : Nat) (rows : List (List ByteArray)) (hl : rows.length = n) (hn : n ≤ maxLen) (hr : ∀ (r : Nat) (l : List ByteArray), rows[r]? = some l → l.length ≤ maxLen) (w : World) (hm : Mat w ao rows) :
    Calls Try.prog 6 #[.slice ao n cap] w fun e w' => (e = .returned (.bool true) ∨ e = .returned (.bool false) ∧ Hid (∀ (r : Nat) (l : List ByteArray), rows[r]? = some l → l.length ≤ 1048576)) ∧ w' = w := by
  have HL := hid_mk hl
  have HR := hid_mk hr
  have HM := hid_mk hm
  clear hl hr hm
  unfold maxLen at hn
  go_enter Try.func6, Try.ntmps6
  go_wp2
  go_loop [3, 4] (fun c d => ∃ (z : Int) (k : Nat), c = .int .i64 z ∧ d = .int .i64 k ∧ k ≤ n ∧ ∀ (r : Nat) (l : List ByteArray), r < k → rows[r]? = some l → l.length ≤ 1048576) (fun _ d => n - (intOf d).toNat)
  case atStart => exact ⟨_, 0, rfl, rfl, Nat.zero_le _, fun r l h => absurd h (by omega)⟩
  case round =>
    obtain ⟨z, k, rfl, rfl, hk, hq⟩ := hrel
    have HQ := hid_mk hq
    clear hq
    by_cases hlt : k < n
    · obtain ⟨l, hl⟩ := rowOf HL.out hlt
      obtain ⟨b, o, a, c, e1, hc1, _, hs⟩ := HM.out k l hl
      have hlm := HR.out k l hl
      obtain ⟨L, hL⟩ : ∃ L, l.length = L := ⟨_, rfl⟩
      rw [hL] at hc1 hlm
      unfold maxLen at hlm
      subst e1
      have HS := hid_mk hs
      have HLl := hid_mk hL
      have HK := hid_mk hl
      clear hs hL hl
      go_wp2
      all_goals try (go_ret; exact ⟨.inl rfl, rfl⟩)
      have hLb : L ≤ 1048576 := by omega
      have HN : Hid (∀ (r : Nat) (l : List ByteArray), r < k + 1 → rows[r]? = some l → l.length ≤ 1048576) := fun r l' h1 h2 => by
        by_cases e : r = k
        · subst e
          have h3 := HK.out
          rw [h2] at h3; injection h3 with h3; subst h3
          have := HLl.out; omega
        · exact HQ.out r l' (by omega) h2
      go_loop [3, 5] (fun c d => ∃ (z : Int) (j : Nat), c = .int .i64 z ∧ d = .int .i64 j ∧ j ≤ L) (fun _ d => L - (intOf d).toNat)
      case atStart => exact ⟨_, 0, rfl, rfl, Nat.zero_le _⟩
      case round =>
        obtain ⟨z2, j, rfl, rfl, hj⟩ := hrel
        by_cases hjl : j < L
        · obtain ⟨x, hx⟩ := getOf HLl.out hjl
          obtain ⟨b2, o2, e2, hc2⟩ := HS.out j x hx
          subst e2
          clear hx
          go_wp2
          all_goals try (go_ret; exact ⟨.inl rfl, rfl⟩)
          all_goals
            go_round
            case rel => exact ⟨_, j + 1, rfl, by go_num, by omega⟩
            case measure => simp [intOf]; omega
        · go_wp2
          go_round
          case rel => exact ⟨_, k + 1, rfl, by go_num, by omega, HN.out⟩
          case measure => simp [intOf]; omega
    · have HF : Hid (∀ (r : Nat) (l : List ByteArray), rows[r]? = some l → l.length ≤ 1048576) := fun r l h => HQ.out r l (by
        have := (List.getElem?_eq_some_iff.1 h).1; have := HL.out; omega) h
      go_wp2
      go_ret
      exact ⟨.inr rfl, rfl⟩
end Go.Proofs.Qxb6630356a
