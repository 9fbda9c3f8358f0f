/-
  HOW A []string AND A [][]string LIE IN MEMORY: two words, and what carries them from world to world. And the functions that only read: zzlStrictlyIncreasing, zzlSameStrings, zzlSortedHas.
-/
import Derived.Test.Qxb6630356aRows
import Derived.Test.Qxb6630356aPlain
import Derived.WalkKit
import Derived.WalkSpells
import Derived.WalkLawsBesides
import Derived.Deep.QuietTactic
import Derived.BigQuiet
import Derived.Deep.OwnRows
namespace Go.Proofs.Qxb6630356a
open Go.RowKit

theorem ret_bool {a b : Bool} (h : a = b) : Ending.returned (.bool a) = .returned (.bool b) := by rw [h]

theorem cell_lt {w : World} {a : Addr} {v : Value} (h : w.cell? a = some v) : a.block < w.heap.size := by
  rcases Nat.lt_or_ge a.block w.heap.size with h' | h'
  · exact h'
  · have e : w.heap[a.block]? = none := Array.getElem?_eq_none h'
    simp [World.cell?, e] at h

/-- The strings l lie behind the slice address ao. -/
def Strs (w : World) (ao : Option Addr) (l : List ByteArray) : Prop :=
  ∀ i x, l[i]? = some x → ∃ b o, ao = some ⟨b, o, none⟩ ∧ w.cell? ⟨b, o + i, none⟩ = some (.string x)
/-- The rows of strings lie behind the slice address ao. -/
def Mat (w : World) (ao : Option Addr) (rows : List (List ByteArray)) : Prop :=
  ∀ r l, rows[r]? = some l → ∃ b o a c, ao = some ⟨b, o, none⟩ ∧ w.cell? ⟨b, o + r, none⟩ = some (.slice a l.length c) ∧ l.length ≤ c ∧ Strs w a l

theorem Strs.below {w w' : World} {ao : Option Addr} {l : List ByteArray} (h : Strs w ao l) (hb : Below w.heap.size w w') : Strs w' ao l := fun i x hx => by
  obtain ⟨b, o, e, hc⟩ := h i x hx
  exact ⟨b, o, e, (hb.cell (cell_lt hc)).trans hc⟩
theorem Strs.drewN {w : World} {ao : Option Addr} {l : List ByteArray} (h : Strs w ao l) (m : Nat) : Strs (w.drewN m) ao l := h
theorem Strs.nil (w : World) (ao : Option Addr) : Strs w ao [] := fun i x hx => by simp at hx
theorem Strs.setCell {w : World} {ao : Option Addr} {l : List ByteArray} (h : Strs w ao l) {p : Addr} (v : Value) (hne : ∀ b o, ao = some ⟨b, o, none⟩ → b ≠ p.block) : Strs (w.setCell p v) ao l := fun i x hx => by
  obtain ⟨b, o, e, hc⟩ := h i x hx
  refine ⟨b, o, e, ?_⟩
  rw [← hc]
  exact World.cell?_of_block (w := w) (Below.heap_setCell w p v b (hne b o e))
theorem Mat.below {w w' : World} {ao : Option Addr} {rows : List (List ByteArray)} (h : Mat w ao rows) (hb : Below w.heap.size w w') : Mat w' ao rows := fun r l hl => by
  obtain ⟨b, o, a, c, e, hc, hlc, hs⟩ := h r l hl
  exact ⟨b, o, a, c, e, (hb.cell (cell_lt hc)).trans hc, hlc, hs.below hb⟩
theorem Mat.drewN {w : World} {ao : Option Addr} {rows : List (List ByteArray)} (h : Mat w ao rows) (m : Nat) : Mat (w.drewN m) ao rows := h
theorem below_drewN' {B : Nat} {a w : World} (h : Below B a w) (m : Nat) : Below B a (w.drewN m) := ⟨h.os, h.tape, h.output, h.size, h.block⟩

theorem drewN_add (w : World) (a b : Nat) : (w.drewN a).drewN b = w.drewN (a + b) := by simp [World.drewN, Nat.add_assoc]
theorem getOf {l : List ByteArray} {n k : Nat} (hl : l.length = n) (hk : k < n) : ∃ x, l[k]? = some x := ⟨l[k]'(by omega), List.getElem?_eq_getElem _⟩

set_option maxHeartbeats 1000000 in
/-- zzlStrictlyIncreasing -/
theorem inc_any (ao : Option Addr) (n cap : Nat) (l : List ByteArray) (hl : l.length = n) (hn : n ≤ 1048576) (w : World) (hs : Strs w ao l) :
    Calls Try.prog 7 #[.slice ao n cap] w fun e w' => ∃ b : Bool, e = .returned (.bool b) ∧ (b = true → Inc l) ∧ ∃ m, w' = w.drewN m := by
  have HL := hid_mk hl
  have HS := hid_mk hs
  clear hl hs
  go_enter Try.func7, Try.ntmps7
  go_wp2
  go_loopw [3] (fun c wr => ∃ k m : Nat, k ≤ n ∧ c = .int .i64 ((k : Int) + 1) ∧ wr = w.drewN m ∧ ∀ i a b, i < k → l[i]? = some a → l[i + 1]? = some b → lt a b = true) (fun c _ => n + 1 - (intOf c).toNat)
  case atStart => exact ⟨0, 0, Nat.zero_le _, rfl, rfl, fun i a b h => absurd h (by omega)⟩
  case round =>
    obtain ⟨k, m, hk, rfl, rfl, hst⟩ := hrel
    have HST := hid_mk hst
    clear hst
    by_cases hlt : k + 1 < n
    · obtain ⟨x, hx⟩ := getOf HL.out (show k < n by omega)
      obtain ⟨y, hy⟩ := getOf HL.out hlt
      obtain ⟨b, o, e1, hc1⟩ := HS.out k x hx
      obtain ⟨b', o', e2, hc2⟩ := HS.out (k + 1) y hy
      subst e1
      obtain ⟨rfl, rfl⟩ : b = b' ∧ o = o' := by simpa using e2
      clear e2
      have HX := hid_mk hx
      have HY := hid_mk hy
      clear hx hy
      have i1 : (0 : Int) ≤ (k : Int) := by omega
      have i2 : (k : Int) < (n : Int) := by omega
      have i3 : (k : Int) + 1 < (n : Int) := by omega
      have hw1 : (w.drewN m).cell? ⟨b, o + k, none⟩ = some (.string x) := hc1
      have hw2 : (w.drewN m).cell? ⟨b, o + (k + 1), none⟩ = some (.string y) := hc2
      cases hlt2 : Op.bytesLess x.toList y.toList with
      | true =>
        go_wp2_with fail
        go_quiet (fail)
        go_wp2
        go_roundw
        case rel =>
          refine ⟨k + 1, _, by omega, by go_num, rfl, fun i a b hi ha hb => ?_⟩
          by_cases e : i = k
          · subst e
            rw [HX.out] at ha; injection ha with ha; subst ha
            rw [HY.out] at hb; injection hb with hb; subst hb
            exact hlt2
          · exact HST.out i a b (by omega) ha hb
        case measure => simp [intOf]; omega
      | false =>
        go_wp2_with fail
        go_quiet (fail)
        go_wp2
        go_ret
        exact ⟨false, rfl, (fun h => by cases h), _, drewN_add _ _ _⟩
    · have HI : Hid (Inc l) := inc_of_steps l (fun i a b ha hb => HST.out i a b (by have := lt_len hb; have := HL.out; omega) ha hb)
      go_wp2
      go_ret
      exact ⟨true, rfl, fun _ => HI.out, _, rfl⟩

set_option maxHeartbeats 1000000 in
/-- zzlSameStrings of one list, lying twice: it says true. -/
theorem same_any (ao ao' : Option Addr) (n n' cap cap' : Nat) (l : List ByteArray) (hl : l.length = n) (hl' : l.length = n') (hn : n ≤ 1048576) (w : World) (hs : Strs w ao l) (hs' : Strs w ao' l) :
    Calls Try.prog 12 #[.slice ao n cap, .slice ao' n' cap'] w fun e w' => e = .returned (.bool true) ∧ ∃ m, w' = w.drewN m := by
  obtain rfl : n = n' := by omega
  have HL := hid_mk hl
  have HS := hid_mk hs
  have HS' := hid_mk hs'
  clear hl hl' hs hs'
  go_enter Try.func12, Try.ntmps12
  go_wp2
  go_loopw [5] (fun c wr => ∃ k m : Nat, k ≤ n ∧ c = .int .i64 k ∧ wr = w.drewN m) (fun c _ => n - (intOf c).toNat)
  case atStart => exact ⟨0, 0, Nat.zero_le _, rfl, rfl⟩
  case round =>
    obtain ⟨k, m, hk, rfl, rfl⟩ := hrel
    by_cases hlt : k < n
    · obtain ⟨x, hx⟩ := getOf HL.out hlt
      obtain ⟨b, o, e1, hc1⟩ := HS.out k x hx
      obtain ⟨b', o', e2, hc2⟩ := HS'.out k x hx
      subst e1 e2
      clear hx
      have i1 : (0 : Int) ≤ (k : Int) := by omega
      have i2 : (k : Int) < (n : Int) := by omega
      have hw1 : (w.drewN m).cell? ⟨b, o + k, none⟩ = some (.string x) := hc1
      have hw2 : (w.drewN m).cell? ⟨b', o' + k, none⟩ = some (.string x) := hc2
      go_wp2_with fail
      go_quiet (fail)
      go_wp2
      go_roundw
      case rel => exact ⟨k + 1, _, by omega, by go_num, rfl⟩
      case measure => simp [intOf]; omega
    · go_wp2
      go_ret
      exact ⟨rfl, _, rfl⟩

set_option maxHeartbeats 1000000 in
/-- zzlSortedHas, in a strictly increasing row. -/
theorem has_any (ao : Option Addr) (n cap : Nat) (l : List ByteArray) (x : ByteArray) (hl : l.length = n) (hn : n ≤ 1048576) (hinc : Inc l) (w : World) (hs : Strs w ao l) :
    Calls Try.prog 11 #[.slice ao n cap, .string x] w fun e w' => e = .returned (.bool (hasB l x)) ∧ w' = w := by
  have HL := hid_mk hl
  have HS := hid_mk hs
  have HI := hid_mk hinc
  have H0 := hid_mk (searched_start l x)
  clear hl hs hinc
  go_enter Try.func11, Try.ntmps11
  go_wp2
  go_loop [5, 6, 7] (fun c d _ => ∃ lo hi : Nat, c = .int .i64 lo ∧ d = .int .i64 hi ∧ lo ≤ hi ∧ hi ≤ n ∧ Searched l x lo hi) (fun c d _ => (intOf d - intOf c).toNat)
  case atStart => exact ⟨0, n, rfl, rfl, Nat.zero_le _, Nat.le_refl _, by have := H0.out; rwa [HL.out] at this⟩
  case round =>
    obtain ⟨lo, hi, rfl, rfl, h1, h2, h3⟩ := hrel
    have H3 := hid_mk h3
    clear h3
    by_cases hlt : lo < hi
    · obtain ⟨y, hy⟩ := getOf HL.out (show lo + (hi - lo) / 2 < n by omega)
      obtain ⟨b, o, e1, hc1⟩ := HS.out (lo + (hi - lo) / 2) y hy
      subst e1
      have HY := hid_mk hy
      clear hy
      cases hlt2 : Op.bytesLess y.toList x.toList with
      | true =>
        have HU := hid_mk (searched_up HI.out H3.out (by omega) HY.out hlt2)
        go_wp2
        go_round
        case rel => exact ⟨lo + (hi - lo) / 2 + 1, hi, by go_num, rfl, by omega, h2, HU.out⟩
        case measure => simp [intOf]; omega
      | false =>
        have HU := hid_mk (searched_down HI.out H3.out (by omega) (by omega) HY.out hlt2)
        go_wp2
        go_round
        case rel => exact ⟨lo, lo + (hi - lo) / 2, rfl, by go_num, by omega, by omega, HU.out⟩
        case measure => simp [intOf]; omega
    · by_cases hln : lo < n
      · obtain ⟨y, hy⟩ := getOf HL.out hln
        obtain ⟨b, o, e1, hc1⟩ := HS.out lo y hy
        subst e1
        cases hyx : (y.toList == x.toList) with
        | true =>
          have HR : Hid (hasB l x = true) := by
            have e := bytes_eq (show y.toList = x.toList by simpa using hyx)
            subst e; exact hasB_iff.2 (searched_found hy)
          clear hy
          go_wp2
          go_ret
          exact ⟨ret_bool HR.out.symm, rfl⟩
        | false =>
          have HR : Hid (hasB l x = false) := hasB_not (searched_not HI.out H3.out (by omega) (fun z hz => by
            rw [hy] at hz; injection hz with hz; subst hz
            intro e; subst e; simp at hyx))
          clear hy
          go_wp2
          go_ret
          exact ⟨ret_bool HR.out.symm, rfl⟩
      · have HR : Hid (hasB l x = false) := hasB_not (searched_not HI.out H3.out (by omega) (fun z hz => by
            have := lt_len hz; have := HL.out; omega))
        go_wp2
        go_ret
        exact ⟨ret_bool HR.out.symm, rfl⟩
end Go.Proofs.Qxb6630356a
