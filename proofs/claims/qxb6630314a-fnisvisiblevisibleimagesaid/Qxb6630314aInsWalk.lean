/-
  THE WALK OF FnIsVisibleInsertAndSplit: it returns true, whatever the input.
-/
import Derived.Test.Qxb6630314aWalks
import Derived.Deep.QuietTactic
import Derived.BigQuiet
namespace Go.Proofs.Qxb6630314a
open Go.RowKit

theorem sz_one (c : UInt8) : (oneS c).size ≤ maxLen := by rw [oneS_size]; decide
theorem sz_ok (s : ByteArray) (hs : s.size ≤ 1048576) : s.size ≤ maxLen := by unfold maxLen; omega
theorem sz_to (s : ByteArray) (i : Nat) (hs : s.size ≤ 1048576) : (s.extract 0 i).size ≤ maxLen := by
  simp only [ByteArray.size_extract, maxLen]; omega
theorem sz_from (s : ByteArray) (i : Nat) (hs : s.size ≤ 1048576) : (s.extract i s.size).size ≤ maxLen := by
  simp only [ByteArray.size_extract, maxLen]; omega
theorem sz_put (s t : ByteArray) (i : Nat) (hs : s.size ≤ 1048576) (ht : t.size ≤ 1048576) : (s.extract 0 i ++ t ++ s.extract i s.size : ByteArray).size ≤ maxLen := by
  simp only [ByteArray.size_append, ByteArray.size_extract, maxLen]; omega

theorem isEmpty_true (s : ByteArray) (h : s.size = 0) : s.toList.isEmpty = true := by
  rw [ByteArray.toList_eq, List.isEmpty_iff]
  exact List.eq_nil_of_length_eq_zero (by simpa using h)
theorem isEmpty_false (s : ByteArray) (h : 0 < s.size) : s.toList.isEmpty = false := by
  rw [ByteArray.toList_eq]
  have hl : s.data.toList.length = s.size := by simp
  cases hx : s.data.toList with
  | nil => rw [hx] at hl; simp at hl; omega
  | cons a b => rfl

theorem gr (w : World) (c : Array Value) (ty : TypeId) {n : Nat} : Grown w ((w.alloc (.cells c ty)).drewN n) := Grown.alloc (Grown.refl w) c ty

/-- What is to be known of a string and a cut in it. -/
theorem combos (s : ByteArray) (i : Nat) (hi : i ≤ s.size) : ∃ E b0 b1 P Q : Bool, s.toList.isEmpty = E ∧ ((i : Int) == 0) = b0 ∧ ((i : Int) == (s.size : Int)) = b1 ∧ (b0 = false → visS (s.extract 0 i) = P) ∧ (b1 = false → visS (s.extract i s.size) = Q)
    ∧ visS s = (!E && (P && Q)) ∧ visL s.data.toList = (P && Q)
    ∧ ((E = true ∧ b0 = true ∧ b1 = true ∧ P = true ∧ Q = true) ∨ (E = false ∧ b0 = true ∧ b1 = false ∧ P = true) ∨ (E = false ∧ b0 = false ∧ b1 = true ∧ Q = true) ∨ (E = false ∧ b0 = false ∧ b1 = false)) := by
  refine ⟨s.toList.isEmpty, _, _, visL (s.data.toList.take i), visL (s.data.toList.drop i), rfl, rfl, rfl, ?_, ?_, ?_, split_at s i, ?_⟩
  · intro h
    have : ¬ (i : Int) = 0 := by simpa using h
    exact visS_to s i (by omega) hi
  · intro h
    have : ¬ (i : Int) = (s.size : Int) := by simpa using h
    exact visS_from s i (by omega)
  · by_cases h : s.size = 0
    · rw [isEmpty_true s h]; unfold visS; simp [h]
    · rw [isEmpty_false s (by omega), visS_pos s (by omega), split_at s i]; rfl
  · by_cases h : s.size = 0
    · refine .inl ⟨isEmpty_true s h, by simp; omega, by simp; omega, ?_, ?_⟩
      · have : i = 0 := by omega
        subst this; rfl
      · rw [List.drop_eq_nil_of_le (by rw [size_toList]; omega)]; rfl
    · have e := isEmpty_false s (by omega)
      by_cases h0 : i = 0
      · refine .inr (.inl ⟨e, by simpa using h0, by simp; omega, ?_⟩)
        subst h0; rfl
      · by_cases h1 : i = s.size
        · refine .inr (.inr (.inl ⟨e, by simp; omega, by simp; omega, ?_⟩))
          rw [List.drop_eq_nil_of_le (by rw [size_toList]; omega)]; rfl
        · exact .inr (.inr (.inr ⟨e, by simp; omega, by simp; omega⟩))

set_option maxHeartbeats 8000000 in
theorem ins_main (s : ByteArray) (i : Nat) (c : UInt8) (n : Int) (hn : (c.toNat : Int) = n) (hs : s.size ≤ 1048576) (hi : i ≤ s.size) (w : World) :
    Calls Try.prog 3 #[.string s, .int .i64 i, .int .u8 n] w fun e w' => e = .returned (.bool true) ∧ Grown w w' := by
  obtain ⟨E, b0, b1, P, Q, hE, hb0, hb1, hP, hQ, hS, hL, hcases⟩ := combos s i hi
  have HT := visS_put s (oneS c) i (by rw [oneS_size]; omega)
  have hov : visL (oneS c).data.toList = visI (c.toNat : Int) := visL_one c
  rw [hL, hov] at HT
  clear hov
  have HA := visS_one c
  have hconv := conv_one c w
  rw [hn] at hconv HT HA
  clear hn
  have h1 := oneS_size c
  have hi0 : (0 : Int) ≤ (i : Int) := by omega
  have hi1 : (i : Int) ≤ (s.size : Int) := by omega
  clear hL
  rcases classes n with ⟨k1, k2, k3⟩ | ⟨k1, k2, k3⟩ | ⟨k1, k2, k3⟩
  all_goals
    rw [k3] at HT HA
    have KA := hid_mk HA
    have KT := hid_mk HT
    have KE := hid_mk hE
    have KS := hid_mk hS
    have K0 := hid_mk hb0
    have K1 := hid_mk hb1
    have KP := hid_mk hP
    have KQ := hid_mk hQ
    have KC := hid_mk hcases
    clear k3 HT HA hE hb0 hb1 hP hQ hcases hS
    go_enter Try.func3, Try.ntmps3
    go_wp2_with (first | (go_at_call 5; go_in) | fail)
    refine (vis_is _ _ KA.out (sz_one c) _).mono ?_
    rintro e w' ⟨rfl, rfl⟩
    go_wp2_with fail
    go_quiet (fail)
    go_wp2_with fail
    rcases KC.out with ⟨rfl, rfl, rfl, rfl, rfl⟩ | ⟨rfl, rfl, rfl, rfl⟩ | ⟨rfl, rfl, rfl, rfl⟩ | ⟨rfl, rfl, rfl⟩
    · have hE := KE.out
      have hb0 := K0.out
      have hb1 := K1.out
      refine (vis_is _ _ KT.out (sz_put s (oneS c) i hs (by rw [oneS_size]; omega)) _).mono ?_
      rintro e w' ⟨rfl, rfl⟩
      go_wp2_with fail
      refine (vis_is _ _ KS.out (sz_ok s hs) _).mono ?_
      rintro e w' ⟨rfl, rfl⟩
      go_wp2
      go_ret
      exact ⟨rfl, gr _ _ _⟩
    · have LQ := hid_mk (KQ.out rfl)
      cases Q
      all_goals
        have hE := KE.out
        have hb0 := K0.out
        have hb1 := K1.out
        refine (vis_is _ _ KT.out (sz_put s (oneS c) i hs (by rw [oneS_size]; omega)) _).mono ?_
        rintro e w' ⟨rfl, rfl⟩
        go_wp2_with fail
        refine (vis_is _ _ KS.out (sz_ok s hs) _).mono ?_
        rintro e w' ⟨rfl, rfl⟩
        go_wp2_with fail
        refine (vis_is _ _ LQ.out (sz_from s i hs) _).mono ?_
        rintro e w' ⟨rfl, rfl⟩
        go_wp2_with fail
        refine (vis_is _ _ KS.out (sz_ok s hs) _).mono ?_
        rintro e w' ⟨rfl, rfl⟩
        go_wp2
        go_ret
        exact ⟨rfl, gr _ _ _⟩
    · have LP := hid_mk (KP.out rfl)
      cases P
      all_goals
        have hE := KE.out
        have hb0 := K0.out
        have hb1 := K1.out
        refine (vis_is _ _ KT.out (sz_put s (oneS c) i hs (by rw [oneS_size]; omega)) _).mono ?_
        rintro e w' ⟨rfl, rfl⟩
        go_wp2_with fail
        refine (vis_is _ _ KS.out (sz_ok s hs) _).mono ?_
        rintro e w' ⟨rfl, rfl⟩
        go_wp2_with fail
        refine (vis_is _ _ LP.out (sz_to s i hs) _).mono ?_
        rintro e w' ⟨rfl, rfl⟩
        go_wp2_with fail
        refine (vis_is _ _ KS.out (sz_ok s hs) _).mono ?_
        rintro e w' ⟨rfl, rfl⟩
        go_wp2
        go_ret
        exact ⟨rfl, gr _ _ _⟩
    · have LP := hid_mk (KP.out rfl)
      have LQ := hid_mk (KQ.out rfl)
      cases P
      all_goals
        cases Q
        all_goals
          have hE := KE.out
          have hb0 := K0.out
          have hb1 := K1.out
          refine (vis_is _ _ KT.out (sz_put s (oneS c) i hs (by rw [oneS_size]; omega)) _).mono ?_
          rintro e w' ⟨rfl, rfl⟩
          go_wp2_with fail
          refine (vis_is _ _ KS.out (sz_ok s hs) _).mono ?_
          rintro e w' ⟨rfl, rfl⟩
          go_wp2_with fail
          refine (vis_is _ _ LP.out (sz_to s i hs) _).mono ?_
          rintro e w' ⟨rfl, rfl⟩
          go_wp2_with fail
          refine (vis_is _ _ LQ.out (sz_from s i hs) _).mono ?_
          rintro e w' ⟨rfl, rfl⟩
          go_wp2_with fail
          refine (vis_is _ _ KS.out (sz_ok s hs) _).mono ?_
          rintro e w' ⟨rfl, rfl⟩
          go_wp2
          go_ret
          exact ⟨rfl, gr _ _ _⟩
end Go.Proofs.Qxb6630314a
