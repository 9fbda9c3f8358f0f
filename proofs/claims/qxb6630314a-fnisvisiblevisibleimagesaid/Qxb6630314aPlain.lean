/-
  THE PLAIN MATHEMATICS OF THIS SEAT: no Go in sight. Bytes as Int numbers, strings as lists of bytes.
-/
import Derived.Below
namespace Go.Proofs.Qxb6630314a

theorem hid_mk {p : Prop} (h : p) : Go.RowKit.Hid p := h

/-- A visible ASCII octet. -/
def visI (n : Int) : Bool := decide (32 < n ∧ n < 127)
/-- Every byte is one. -/
def visL (l : List UInt8) : Bool := l.all fun c => visI (c.toNat : Int)
/-- What 'IsVisible' says, of a string. -/
def visS (s : ByteArray) : Bool := visL s.data.toList && decide (0 < s.size)

theorem visL_append (a b : List UInt8) : visL (a ++ b) = (visL a && visL b) := by simp [visL]
theorem visL_one (c : UInt8) : visL [c] = visI (c.toNat : Int) := by simp [visL]

theorem take_snoc (s : ByteArray) (k : Nat) (h : k < s.size) : s.data.toList.take (k + 1) = s.data.toList.take k ++ [s[k]] := by
  rw [List.take_succ_eq_append_getElem (by simpa using h)]; rfl

theorem visL_step (s : ByteArray) (k : Nat) (h : k < s.size) (hk : visL (s.data.toList.take k) = true) (hc : visI (s[k].toNat : Int) = true) :
    visL (s.data.toList.take (k + 1)) = true := by
  rw [take_snoc s k h, visL_append, visL_one, hk, hc]; rfl

theorem visS_bad (s : ByteArray) (k : Nat) (h : k < s.size) (hc : visI (s[k].toNat : Int) = false) : visS s = false := by
  have hb : visL s.data.toList = false := by
    rw [← List.take_append_drop (k + 1) s.data.toList, visL_append, take_snoc s k h, visL_append, visL_one, hc]; simp
  unfold visS; rw [hb]; rfl

theorem visS_full (s : ByteArray) (k : Nat) (h : ¬ k < s.size) (hk : visL (s.data.toList.take k) = true) : visS s = decide (0 < s.size) := by
  rw [List.take_of_length_le (by simp; omega)] at hk
  unfold visS; rw [hk]; rfl

theorem size_toList (s : ByteArray) : s.data.toList.length = s.size := by simp

theorem split_at (s : ByteArray) (i : Nat) : visL s.data.toList = (visL (s.data.toList.take i) && visL (s.data.toList.drop i)) := by
  rw [← visL_append, List.take_append_drop]

theorem data_to (s : ByteArray) (i : Nat) : (s.extract 0 i).data.toList = s.data.toList.take i := by
  rw [ByteArray.data_extract, Array.toList_extract]; simp [List.extract]
theorem data_from (s : ByteArray) (i : Nat) : (s.extract i s.size).data.toList = s.data.toList.drop i := by
  rw [ByteArray.data_extract, Array.toList_extract]
  simp only [List.extract]; exact List.take_of_length_le (by simp)

/-- The string of one byte. -/
def oneS (c : UInt8) : ByteArray := ⟨#[c]⟩
theorem oneS_size (c : UInt8) : (oneS c).size = 1 := rfl
theorem visS_one (c : UInt8) : visS (oneS c) = visI (c.toNat : Int) := by
  unfold visS; rw [oneS_size]
  have : visL (oneS c).data.toList = visI (c.toNat : Int) := visL_one c
  rw [this]; simp

theorem visS_to (s : ByteArray) (i : Nat) (h0 : 0 < i) (hi : i ≤ s.size) : visS (s.extract 0 i) = visL (s.data.toList.take i) := by
  unfold visS
  have hz : 0 < (s.extract 0 i).size := by simp only [ByteArray.size_extract]; omega
  rw [data_to]; simp only [hz, decide_true, Bool.and_true]
theorem visS_from (s : ByteArray) (i : Nat) (hi : i < s.size) : visS (s.extract i s.size) = visL (s.data.toList.drop i) := by
  unfold visS
  have hz : 0 < (s.extract i s.size).size := by simp only [ByteArray.size_extract]; omega
  rw [data_from]; simp only [hz, decide_true, Bool.and_true]
theorem visS_pos (s : ByteArray) (h : 0 < s.size) : visS s = visL s.data.toList := by unfold visS; simp [h]

/-- A string put in at a cut. -/
theorem visS_put (s t : ByteArray) (i : Nat) (h : 0 < t.size) : visS (s.extract 0 i ++ t ++ s.extract i s.size) = (visL s.data.toList && visL t.data.toList) := by
  rw [visS_pos _ (by simp only [ByteArray.size_append]; omega), ByteArray.data_append, ByteArray.data_append, Array.toList_append, Array.toList_append, visL_append, visL_append, data_to, data_from, split_at s i]
  cases visL (s.data.toList.take i) <;> cases visL (s.data.toList.drop i) <;> cases visL t.data.toList <;> rfl

theorem empty_of (s : ByteArray) (h : s.size = 0) : s = ByteArray.empty := by
  apply ByteArray.ext; apply Array.toList_inj.1; exact List.eq_nil_of_length_eq_zero (by simpa using h)

/-- The three classes of a byte. -/
theorem classes (n : Int) : (32 < n ∧ n < 127 ∧ visI n = true) ∨ (n ≤ 32 ∧ True ∧ visI n = false) ∨ (32 < n ∧ 127 ≤ n ∧ visI n = false) := by
  simp only [visI, decide_eq_true_eq, decide_eq_false_iff_not, true_and]
  omega
end Go.Proofs.Qxb6630314a
