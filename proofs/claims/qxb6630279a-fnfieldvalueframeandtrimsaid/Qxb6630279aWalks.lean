/-
  THE WALKS OF THIS SEAT's SHARED FUNCTIONS: each computes a plain function of Qxb6630279aPlain.
-/
import Derived.Test.Qxb6630279aRows
import Derived.Test.Qxb6630279aPlain
import Derived.WalkKit
import Derived.WalkSpells
import Derived.WalkLawsBesides
import Derived.Outline
namespace Go.Proofs.Qxb6630279a
open Go.RowKit

theorem ret_bool {a b : Bool} (h : a = b) : Ending.returned (.bool a) = .returned (.bool b) := by rw [h]

/-- spaceOrTab -/
theorem sot_any (n : Int) (w : World) : Calls Try.prog 14 #[.int .u8 n] w fun e w' => e = .returned (.bool (sotI n)) ∧ w' = w := by
  by_cases h1 : n = 32
  · subst h1
    go_enter Try.func14, Try.ntmps14
    go_wp2
    go_ret
    exact ⟨rfl, rfl⟩
  · have h1' : (n == 32) = false := by simpa using h1
    by_cases h2 : n = 9
    · subst h2
      go_enter Try.func14, Try.ntmps14
      go_wp2
      go_ret
      exact ⟨rfl, rfl⟩
    · have h2' : (n == 9) = false := by simpa using h2
      have hs : sotI n = false := by simp [sotI, h1, h2]
      clear h1 h2
      go_enter Try.func14, Try.ntmps14
      go_wp2
      go_ret
      exact ⟨ret_bool hs.symm, rfl⟩

/-- isOWS -/
theorem ows_any (n : Int) (w : World) : Calls Try.prog 13 #[.int .u8 n] w fun e w' => e = .returned (.bool (sotI n)) ∧ w' = w := by
  by_cases h1 : n = 32
  · subst h1
    go_enter Try.func13, Try.ntmps13
    go_wp2
    go_ret
    exact ⟨rfl, rfl⟩
  · have h1' : (n == 32) = false := by simpa using h1
    by_cases h2 : n = 9
    · subst h2
      go_enter Try.func13, Try.ntmps13
      go_wp2
      go_ret
      exact ⟨rfl, rfl⟩
    · have h2' : (n == 9) = false := by simpa using h2
      have hs : sotI n = false := by simp [sotI, h1, h2]
      clear h1 h2
      go_enter Try.func13, Try.ntmps13
      go_wp2
      go_ret
      exact ⟨ret_bool hs.symm, rfl⟩

/-- ZZspaceOrTab -/
theorem zsot_any (n : Int) (w : World) : Calls Try.prog 10 #[.int .u8 n] w fun e w' => e = .returned (.bool (sotI n)) ∧ w' = w := by
  go_enter Try.func10, Try.ntmps10
  go_wp2_with (go_at_call 14; refine (sot_any _ _).mono ?_; rintro e w' ⟨rfl, rfl⟩)
  go_ret
  exact ⟨rfl, rfl⟩

set_option maxHeartbeats 1000000 in
/-- fieldValue -/
theorem fv_any (s : ByteArray) (w : World) (hs : s.size ≤ maxLen) :
    Calls Try.prog 11 #[.string s] w fun e w' => e = .returned (.bool (fvS s)) ∧ w' = w := by
  unfold maxLen at hs
  go_enter Try.func11, Try.ntmps11
  go_wp2
  go_loop [7] (fun i => ∃ k : Nat, k ≤ s.size ∧ i = .int .i64 k ∧ okL (s.data.toList.take k) = true) (fun i => s.size - (intOf i).toNat)
  case atStart => exact ⟨0, Nat.zero_le _, rfl, rfl⟩
  case round =>
    obtain ⟨k, hk, rfl, hok⟩ := hrel
    have HO : Hid (okL (s.data.toList.take k) = true) := hok
    clear hok
    by_cases hlt : k < s.size
    · by_cases hc : okI (s[k].toNat : Int) = true
      · have hst := okL_step s k hlt HO.out hc
        have HS : Hid (okL (s.data.toList.take (k + 1)) = true) := hst
        clear hst
        have hcc : ((32 : Int) ≤ (s[k].toNat : Int) ∨ (s[k].toNat : Int) = 9) ∧ (s[k].toNat : Int) ≠ 127 := by simpa [okI] using hc
        clear hc
        have h127 : ((s[k].toNat : Int) == 127) = false := by simpa using hcc.2
        rcases hcc.1 with h32 | h9
        · clear hcc
          go_wp2
          go_round
          case rel => exact ⟨k + 1, by omega, by go_num, HS.out⟩
          case measure => simp [intOf]; omega
        · clear hcc
          go_wp2
          go_round
          case rel => exact ⟨k + 1, by omega, by go_num, HS.out⟩
          case measure => simp [intOf]; omega
      · have hc' : okI (s[k].toNat : Int) = false := by simpa using hc
        have hb := fvS_bad s k hlt hc'
        have HB : Hid (fvS s = false) := hb
        clear hb hc
        have hcc : ((s[k].toNat : Int) < 32 ∧ ((s[k].toNat : Int) != 9) = true) ∨ (((s[k].toNat : Int) == 127) = true ∧ (32 : Int) ≤ (s[k].toNat : Int)) := by
          have h : ¬ (((32 : Int) ≤ (s[k].toNat : Int) ∨ (s[k].toNat : Int) = 9) ∧ (s[k].toNat : Int) ≠ 127) := by simpa [okI] using hc'
          by_cases h127 : (s[k].toNat : Int) = 127
          · exact .inr ⟨by simpa using h127, by omega⟩
          · refine .inl ⟨by omega, ?_⟩
            have : ¬ (s[k].toNat : Int) = 9 := by omega
            simpa using this
        clear hc'
        rcases hcc with ⟨h32, h9⟩ | ⟨h127, h32⟩
        · go_wp2
          go_ret
          exact ⟨ret_bool HB.out.symm, rfl⟩
        · go_wp2
          go_ret
          exact ⟨ret_bool HB.out.symm, rfl⟩
    · have hfull := okL_full s k hlt HO.out
      by_cases h0 : s.size = 0
      · have HE : Hid (fvS s = true) := fvS_empty s h0
        have hem : s.toList.isEmpty = true := by
          rw [ByteArray.toList_eq, List.isEmpty_iff]
          exact List.eq_nil_of_length_eq_zero (by simpa using h0)
        clear hfull
        go_wp2
        go_ret
        exact ⟨ret_bool HE.out.symm, rfl⟩
      · have hpos : 0 < s.size := by omega
        have hem : s.toList.isEmpty = false := by
          rw [ByteArray.toList_eq]
          have hl : s.data.toList.length = s.size := by simp
          cases hx : s.data.toList with
          | nil => rw [hx] at hl; simp at hl; omega
          | cons a b => rfl
        have HF : Hid (fvS s = (!sotI (s[0].toNat : Int) && !sotI ((s[s.size - 1]'(by omega)).toNat : Int))) := fvS_ok s hpos hfull
        clear hfull
        cases hs0 : sotI (s[0].toNat : Int) with
        | true =>
          go_wp2_with (go_at_call 14; refine (sot_any _ _).mono ?_; rintro e w' ⟨rfl, rfl⟩)
          go_ret
          exact ⟨ret_bool (by rw [HF.out, hs0]; rfl), rfl⟩
        | false =>
          go_wp2_with (go_at_call 14; refine (sot_any _ _).mono ?_; rintro e w' ⟨rfl, rfl⟩)
          go_ret
          exact ⟨ret_bool (by rw [HF.out, hs0]; rfl), rfl⟩

/-- ZZfieldValue -/
theorem zfv_any (s : ByteArray) (w : World) (hs : s.size ≤ maxLen) :
    Calls Try.prog 6 #[.string s] w fun e w' => e = .returned (.bool (fvS s)) ∧ w' = w := by
  go_enter Try.func6, Try.ntmps6
  go_wp2_with (go_at_call 11; refine (fv_any _ _ hs).mono ?_; rintro e w' ⟨rfl, rfl⟩)
  go_ret
  exact ⟨rfl, rfl⟩
end Go.Proofs.Qxb6630279a
