/-
  THE WALK OF FnFieldValueFrameAndTrim: it returns true, whatever the input.
-/
import Derived.Test.Qxb6630279aInsWalk
namespace Go.Proofs.Qxb6630279a
open Go.RowKit

/-- Is byte k there, and a space or a tab? -/
def sotAt (s : ByteArray) (k : Nat) : Bool := if h : k < s.size then sotI (s[k].toNat : Int) else false
theorem sotAt_eq (s : ByteArray) (k : Nat) (h : k < s.size) : sotAt s k = sotI (s[k].toNat : Int) := by simp [sotAt, h]

theorem trim_end (s : ByteArray) (k m : Nat) (hk : 0 < k → sotAt s 0 = true) (hx : k < s.size → sotAt s k = false) (hkm : k ≤ m) (hm : m ≤ s.size)
    (hy : m < s.size → sotAt s (s.size - 1) = true) (hz : k < m → sotAt s (m - 1) = false) :
    (((m : Int) - (k : Int)) == (s.size : Int)) = endsL s.data.toList := by
  by_cases h0 : 0 < s.size
  · rw [endsL_eq s h0, ← sotAt_eq s 0 h0, ← sotAt_eq s (s.size - 1) (by omega)]
    by_cases hk0 : 0 < k
    · rw [hk hk0]
      have : ¬ ((m : Int) - (k : Int)) = (s.size : Int) := by omega
      simpa using this
    · by_cases hms : m < s.size
      · rw [hy hms]
        have : ¬ ((m : Int) - (k : Int)) = (s.size : Int) := by omega
        simpa using this
      · have e1 : k = 0 := by omega
        have e2 : m = s.size := by omega
        subst e1; subst e2
        rw [hx h0, hz h0]
        simp
  · have hl : s.data.toList = [] := by
      have h : s.data.toList.length = s.size := by simp
      exact List.eq_nil_of_length_eq_zero (by omega)
    rw [hl]
    have e1 : k = 0 := by omega
    have e2 : m = 0 := by omega
    have e3 : s.size = 0 := by omega
    rw [e1, e2, e3]; rfl

/-- octetAllowed -/
theorem oct_any (n : Int) (w : World) : Calls Try.prog 12 #[.int .u8 n] w fun e w' => e = .returned (.bool (okI n)) ∧ w' = w := by
  by_cases h1 : n = 32
  · subst h1
    go_enter Try.func12, Try.ntmps12
    go_wp2
    go_ret
    exact ⟨rfl, rfl⟩
  · have h1' : (n == 32) = false := by simpa using h1
    by_cases h2 : n = 9
    · subst h2
      go_enter Try.func12, Try.ntmps12
      go_wp2
      go_ret
      exact ⟨rfl, rfl⟩
    · have h2' : (n == 9) = false := by simpa using h2
      by_cases h3 : 33 ≤ n
      · by_cases h4 : n ≤ 126
        · have hr : okI n = true := by simp only [okI, decide_eq_true_eq]; omega
          clear h1 h2
          go_enter Try.func12, Try.ntmps12
          go_wp2
          go_ret
          exact ⟨ret_bool hr.symm, rfl⟩
        · have hr : okI n = decide (128 ≤ n) := by rw [Bool.eq_iff_iff]; simp only [okI, decide_eq_true_eq]; omega
          have HR := hid_mk hr
          clear h1 h2 hr
          go_enter Try.func12, Try.ntmps12
          go_wp2
          go_ret
          exact ⟨ret_bool HR.out.symm, rfl⟩
      · have hr : okI n = decide (128 ≤ n) := by rw [Bool.eq_iff_iff]; simp only [okI, decide_eq_true_eq]; omega
        have HR := hid_mk hr
        clear h1 h2 hr
        go_enter Try.func12, Try.ntmps12
        go_wp2
        go_ret
        exact ⟨ret_bool HR.out.symm, rfl⟩

theorem oct_is (n : Int) (B : Bool) (h : okI n = B) (w : World) : Calls Try.prog 12 #[.int .u8 n] w fun e w' => e = .returned (.bool B) ∧ w' = w := by
  subst h; exact oct_any n w
theorem ows_is (n : Int) (B : Bool) (h : sotI n = B) (w : World) : Calls Try.prog 13 #[.int .u8 n] w fun e w' => e = .returned (.bool B) ∧ w' = w := by
  subst h; exact ows_any n w

set_option maxHeartbeats 1000000 in
/-- allOctetsAllowed -/
theorem all_any (s : ByteArray) (w : World) (hs : s.size ≤ maxLen) :
    Calls Try.prog 7 #[.string s] w fun e w' => e = .returned (.bool (okL s.data.toList)) ∧ w' = w := by
  unfold maxLen at hs
  go_enter Try.func7, Try.ntmps7
  go_wp2
  go_loop [3] (fun i => ∃ k : Nat, k ≤ s.size ∧ i = .int .i64 k ∧ okL (s.data.toList.take k) = true) (fun i => s.size - (intOf i).toNat)
  case atStart => exact ⟨0, Nat.zero_le _, rfl, rfl⟩
  case round =>
    obtain ⟨k, hk, rfl, hok⟩ := hrel
    have HO := hid_mk hok
    clear hok
    by_cases hlt : k < s.size
    · cases hc : okI (s[k].toNat : Int) with
      | true =>
        have HS := hid_mk (okL_step s k hlt HO.out hc)
        have HC := hid_mk hc
        clear hc
        go_wp2_with (go_at_call 12; refine (oct_is _ _ HC.out _).mono ?_; rintro e w' ⟨rfl, rfl⟩)
        go_round
        case rel => exact ⟨k + 1, by omega, by go_num, HS.out⟩
        case measure => simp [intOf]; omega
      | false =>
        have HB := hid_mk (okL_bad s k hlt hc)
        have HC := hid_mk hc
        clear hc
        go_wp2_with (go_at_call 12; refine (oct_is _ _ HC.out _).mono ?_; rintro e w' ⟨rfl, rfl⟩)
        go_ret
        exact ⟨ret_bool HB.out.symm, rfl⟩
    · have HF := hid_mk (okL_full s k hlt HO.out)
      go_wp2
      go_ret
      exact ⟨ret_bool HF.out.symm, rfl⟩

set_option maxHeartbeats 2000000 in
/-- trimmedLen -/
theorem trim_any (s : ByteArray) (w : World) (hs : s.size ≤ maxLen) :
    Calls Try.prog 8 #[.string s] w fun e w' => ∃ n : Int, e = .returned (.int .i64 n) ∧ (n == (s.size : Int)) = endsL s.data.toList ∧ w' = w := by
  unfold maxLen at hs
  go_enter Try.func8, Try.ntmps8
  go_wp2
  go_loop [3] (fun i => ∃ k : Nat, k ≤ s.size ∧ i = .int .i64 k ∧ (0 < k → sotAt s 0 = true)) (fun i => s.size - (intOf i).toNat)
  case atStart => exact ⟨0, Nat.zero_le _, rfl, fun h => absurd h (by omega)⟩
  case round =>
    obtain ⟨k, hk, rfl, hk0⟩ := hrel
    have HK := hid_mk hk0
    clear hk0
    by_cases hgo : k < s.size ∧ sotAt s k = true
    · obtain ⟨hlt, hso⟩ := hgo
      have HN : Hid (0 < k + 1 → sotAt s 0 = true) := fun _ => by
        rcases Nat.eq_zero_or_pos k with h | h
        · subst h; exact hso
        · exact HK.out h
      have HC := hid_mk ((sotAt_eq s k hlt).symm.trans hso)
      clear hso
      go_wp2_with (go_at_call 13; refine (ows_is _ _ HC.out _).mono ?_; rintro e w' ⟨rfl, rfl⟩)
      go_round
      case rel => exact ⟨k + 1, by omega, by go_num, HN.out⟩
      case measure => simp [intOf]; omega
    · have HX : Hid (k < s.size → sotAt s k = false) := fun h => by
        cases hv : sotAt s k with
        | false => rfl
        | true => exact absurd ⟨h, hv⟩ hgo
      clear hgo
      by_cases hlt : k < s.size
      case' pos =>
        have HC := hid_mk ((sotAt_eq s k hlt).symm.trans (HX.out hlt))
        go_wp2_with (go_at_call 13; refine (ows_is _ _ HC.out _).mono ?_; rintro e w' ⟨rfl, rfl⟩)
      case' neg => go_wp2
      all_goals
        go_loop [4] (fun i => ∃ m : Nat, k ≤ m ∧ m ≤ s.size ∧ i = .int .i64 m ∧ (m < s.size → sotAt s (s.size - 1) = true)) (fun i => (intOf i).toNat)
        case atStart => exact ⟨s.size, by omega, Nat.le_refl _, rfl, fun h => absurd h (by omega)⟩
        case round =>
          obtain ⟨m, hkm, hms, rfl, hm0⟩ := hrel
          have HM := hid_mk hm0
          clear hm0
          by_cases hgo : k < m ∧ sotAt s (m - 1) = true
          · obtain ⟨hlm, hso⟩ := hgo
            obtain ⟨m', rfl⟩ : ∃ m', m = m' + 1 := ⟨m - 1, by omega⟩
            simp only [Nat.add_sub_cancel] at hso
            have hm1 : m' < s.size := by omega
            have HN : Hid (m' < s.size → sotAt s (s.size - 1) = true) := fun _ => by
              by_cases h : m' + 1 < s.size
              · exact HM.out h
              · have : s.size - 1 = m' := by omega
                rw [this]; exact hso
            have HC := hid_mk ((sotAt_eq s m' hm1).symm.trans hso)
            clear hso
            go_wp2_with (go_at_call 13; refine (ows_is _ _ HC.out _).mono ?_; rintro e w' ⟨rfl, rfl⟩)
            all_goals
              go_round
              case rel => exact ⟨m', by omega, by omega, by go_num, HN.out⟩
              case measure => simp [intOf]
          · have HZ : Hid (k < m → sotAt s (m - 1) = false) := fun h => by
              cases hv : sotAt s (m - 1) with
              | false => rfl
              | true => exact absurd ⟨h, hv⟩ hgo
            have HE := hid_mk (trim_end s k m HK.out HX.out hkm hms HM.out HZ.out)
            clear hgo
            by_cases hlm : k < m
            · obtain ⟨m', rfl⟩ : ∃ m', m = m' + 1 := ⟨m - 1, by omega⟩
              have hm1 : m' < s.size := by omega
              have HC := hid_mk ((sotAt_eq s m' hm1).symm.trans (HZ.out hlm))
              go_wp2_with (go_at_call 13; refine (ows_is _ _ HC.out _).mono ?_; rintro e w' ⟨rfl, rfl⟩)
              all_goals
                go_ret
                exact ⟨_, rfl, HE.out, rfl⟩
            · go_wp2
              go_ret
              exact ⟨_, rfl, HE.out, rfl⟩
end Go.Proofs.Qxb6630279a
