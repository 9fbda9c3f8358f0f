/-
  THE WALK OF FnFieldValueInsertByte: it returns true, whatever the input.
-/
import Derived.Test.Qxb6630279aWalks
import Derived.Deep.QuietTactic
import Derived.BigQuiet
import Derived.Laws.BytesArg
namespace Go.Proofs.Qxb6630279a
open Go.RowKit
theorem hid_mk {p : Prop} (h : p) : Hid p := h
theorem zfv_is (s : ByteArray) (B : Bool) (h : fvS s = B) (hs : s.size ≤ maxLen) (w : World) :
    Calls Try.prog 6 #[.string s] w fun e w' => e = .returned (.bool B) ∧ w' = w := by
  subst h; exact zfv_any s w hs
theorem zsot_is (n : Int) (B : Bool) (h : sotI n = B) (w : World) :
    Calls Try.prog 10 #[.int .u8 n] w fun e w' => e = .returned (.bool B) ∧ w' = w := by
  subst h; exact zsot_any n w

def oneS (c : UInt8) : ByteArray := ⟨#[c]⟩
theorem oneS_size (c : UInt8) : (oneS c).size = 1 := rfl
theorem conv_one (c : UInt8) (w : World) : (convert 25 9 (.slice (some ⟨w.heap.size, 0, none⟩) 1 1)).run Try.prog (w.alloc (.cells #[.int .u8 (c.toNat : Int)] 5)) = .ok (.string (oneS c)) (w.alloc (.cells #[.int .u8 (c.toNat : Int)] 5)) := by
  have h := run_convert_bytes_arg (P := Try.prog) (w.alloc (.cells #[.int .u8 (c.toNat : Int)] 5)) 25 5 Try.underlying25 Try.underlying5 w.heap.size 0 1 1 [(c.toNat : Int)] rfl (fun i hi => by
    have : i = 0 := by omega
    subst this
    simp) 9 Try.underlying9
  rw [h]
  simp [strOfNums, oneS]

theorem fvS_one (c : UInt8) : fvS (oneS c) = (okI (c.toNat : Int) && !sotI (c.toNat : Int)) := by
  unfold fvS oneS; exact fv_one c
theorem fvS_framed (s : ByteArray) : fvS (⟨#[120]⟩ ++ s ++ ⟨#[120]⟩) = okL s.data.toList := by
  unfold fvS; rw [ByteArray.data_append, ByteArray.data_append, Array.toList_append, Array.toList_append]
  exact fv_framed _
theorem fvS_put (s : ByteArray) (i : Nat) (c : UInt8) :
    fvS (⟨#[120]⟩ ++ s.extract 0 i ++ oneS c ++ s.extract i s.size ++ ⟨#[120]⟩) = (okL s.data.toList && okI (c.toNat : Int)) := by
  have e : (⟨#[120]⟩ ++ s.extract 0 i ++ oneS c ++ s.extract i s.size ++ ⟨#[120]⟩ : ByteArray) = ⟨#[120]⟩ ++ (s.extract 0 i ++ oneS c ++ s.extract i s.size) ++ ⟨#[120]⟩ := by
    simp only [ByteArray.append_assoc]
  rw [e, fvS_framed, ByteArray.data_append, ByteArray.data_append, Array.toList_append, Array.toList_append, okL_append, okL_append]
  have e1 : okL (oneS c).data.toList = okI (c.toNat : Int) := okL_one c
  rw [e1, ByteArray.data_extract, ByteArray.data_extract, Array.toList_extract, Array.toList_extract]
  have hl : s.data.toList.length = s.size := by simp
  have e2 : List.extract s.data.toList 0 i = s.data.toList.take i := by simp [List.extract]
  have e3 : List.extract s.data.toList i s.size = s.data.toList.drop i := by
    simp only [List.extract]; exact List.take_of_length_le (by simp [hl])
  rw [e2, e3]
  have e4 : okL s.data.toList = (okL (s.data.toList.take i) && okL (s.data.toList.drop i)) := by
    rw [← okL_append, List.take_append_drop]
  rw [e4]
  cases okL (s.data.toList.take i) <;> cases okL (s.data.toList.drop i) <;> cases okI (c.toNat : Int) <;> rfl

theorem sz_x : (ByteArray.mk #[120]).size = 1 := rfl
theorem sz_framed (s : ByteArray) (hs : s.size ≤ 1048576) : (⟨#[120]⟩ ++ s ++ ⟨#[120]⟩ : ByteArray).size ≤ maxLen := by
  simp only [ByteArray.size_append, sz_x, maxLen]; omega
theorem sz_put (s : ByteArray) (i : Nat) (c : UInt8) (hs : s.size ≤ 1048576) : (⟨#[120]⟩ ++ s.extract 0 i ++ oneS c ++ s.extract i s.size ++ ⟨#[120]⟩ : ByteArray).size ≤ maxLen := by
  simp only [ByteArray.size_append, ByteArray.size_extract, sz_x, maxLen, oneS_size]; omega
theorem sz_one (c : UInt8) : (oneS c).size ≤ maxLen := by rw [oneS_size]; decide

/-- The four classes of a byte. -/
theorem classes (n : Int) : (33 ≤ n ∧ (n != 127) = true ∧ okI n = true ∧ sotI n = false) ∨ (n < 33 ∧ 9 ≤ n ∧ okI n = true ∧ sotI n = true)
    ∨ (n < 33 ∧ n ≤ 32 ∧ okI n = false ∧ sotI n = false) ∨ (33 ≤ n ∧ (n != 127) = false ∧ okI n = false ∧ sotI n = false) := by
  simp only [okI, sotI, decide_eq_true_eq, decide_eq_false_iff_not, bne_iff_ne, bne_eq_false_iff_eq, ne_eq]
  omega

set_option maxHeartbeats 4000000 in
theorem ins_main (s : ByteArray) (i : Nat) (c : UInt8) (hs : s.size ≤ 1048576) (hi : i ≤ s.size) (w : World) :
    Calls Try.prog 4 #[.string s, .int .i64 i, .int .u8 c.toNat] w fun e w' => e = .returned (.bool true) ∧ Grown w w' := by
  have HA := fvS_one c
  have HB := fvS_framed s
  have HF := fvS_put s i c
  have hconv := conv_one c w
  have h1 := oneS_size c
  have hi0 : (0 : Int) ≤ (i : Int) := by omega
  have hi1 : (i : Int) ≤ (s.size : Int) := by omega
  rcases classes (c.toNat : Int) with ⟨k1, k2, k3, k4⟩ | ⟨k1, k2, k3, k4⟩ | ⟨k1, k2, k3, k4⟩ | ⟨k1, k2, k3, k4⟩
  all_goals
    rw [k3, k4] at HA
    rw [k3] at HF
    have KA := hid_mk HA
    have KO := hid_mk k4
    clear k3 k4 HA
    cases hb : okL s.data.toList
    all_goals
      rw [hb] at HB HF
      have KB := hid_mk HB
      have KF := hid_mk HF
      clear HB HF hb
      go_enter Try.func4, Try.ntmps4
      go_wp2_with (first | (go_at_call 9; go_in) | fail)
      refine (zfv_is _ _ KB.out (sz_framed s hs) _).mono ?_
      rintro e w' ⟨rfl, rfl⟩
      go_wp2_with fail
      go_quiet ((go_at_call 6; exact Calls.quiet_of_same (zfv_is _ _ KF.out (sz_put s i c hs) _)))
      go_wp2_with fail
      refine (zfv_is _ _ KA.out (sz_one c) _).mono ?_
      rintro e w' ⟨rfl, rfl⟩
      go_wp2_with fail
      refine (zsot_is _ _ KO.out _).mono ?_
      rintro e w' ⟨rfl, rfl⟩
      go_wp2
      go_ret
      exact ⟨rfl, by repeat (first | exact Grown.refl _ | apply Grown.drew | apply Grown.alloc)⟩
end Go.Proofs.Qxb6630279a
