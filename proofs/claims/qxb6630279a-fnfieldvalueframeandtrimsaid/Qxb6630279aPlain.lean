/-
  THE PLAIN MATHEMATICS OF THIS SEAT: no Go in sight. Bytes as Int numbers, strings as lists of bytes.
-/
import Derived.Below
namespace Go.Proofs.Qxb6630279a

/-- A space or a tab. -/
def sotI (n : Int) : Bool := decide (n = 32 ∨ n = 9)
/-- An octet that a field value may hold inside. -/
def okI (n : Int) : Bool := decide ((32 ≤ n ∨ n = 9) ∧ n ≠ 127)
/-- Every byte is such an octet. -/
def okL (l : List UInt8) : Bool := l.all fun c => okI (c.toNat : Int)
/-- Neither end is a space or a tab (the empty list has none). -/
def endsL (l : List UInt8) : Bool := l.isEmpty || (!sotI ((l.headD 0).toNat : Int) && !sotI ((l.getLastD 0).toNat : Int))
/-- What 'fieldValue' says. -/
def fvL (l : List UInt8) : Bool := okL l && endsL l
/-- What 'fieldValue' says, of a string. -/
def fvS (s : ByteArray) : Bool := fvL s.data.toList

theorem okL_nil : okL [] = true := rfl
theorem okL_append (a b : List UInt8) : okL (a ++ b) = (okL a && okL b) := by simp [okL]
theorem okL_one (c : UInt8) : okL [c] = okI (c.toNat : Int) := by simp [okL]

theorem take_snoc (s : ByteArray) (k : Nat) (h : k < s.size) : s.data.toList.take (k + 1) = s.data.toList.take k ++ [s[k]] := by
  rw [List.take_succ_eq_append_getElem (by simpa using h)]; rfl

theorem okL_step (s : ByteArray) (k : Nat) (h : k < s.size) (hk : okL (s.data.toList.take k) = true) (hc : okI (s[k].toNat : Int) = true) :
    okL (s.data.toList.take (k + 1)) = true := by
  rw [take_snoc s k h, okL_append, okL_one, hk, hc]; rfl

theorem okL_bad (s : ByteArray) (k : Nat) (h : k < s.size) (hc : okI (s[k].toNat : Int) = false) : okL s.data.toList = false := by
  rw [← List.take_append_drop (k + 1) s.data.toList, okL_append, take_snoc s k h, okL_append, okL_one, hc]; simp

theorem okL_full (s : ByteArray) (k : Nat) (h : ¬ k < s.size) (hk : okL (s.data.toList.take k) = true) : okL s.data.toList = true := by
  rwa [List.take_of_length_le (by simp; omega)] at hk

theorem fvS_bad (s : ByteArray) (k : Nat) (h : k < s.size) (hc : okI (s[k].toNat : Int) = false) : fvS s = false := by
  unfold fvS fvL; rw [okL_bad s k h hc]; rfl

theorem endsL_eq (s : ByteArray) (h : 0 < s.size) : endsL s.data.toList = (!sotI (s[0].toNat : Int) && !sotI ((s[s.size - 1]'(by omega)).toNat : Int)) := by
  have hl : s.data.toList.length = s.size := by simp
  have hne : s.data.toList ≠ [] := by intro e; rw [e] at hl; simp at hl; omega
  unfold endsL
  have e0 : s.data.toList.isEmpty = false := by simpa using hne
  have e1 : s.data.toList.headD 0 = s[0] := by
    rw [List.headD_eq_head?_getD, List.head?_eq_getElem?, List.getElem?_eq_getElem (by omega)]; rfl
  have e2 : s.data.toList.getLastD 0 = s[s.size - 1]'(by omega) := by
    rw [List.getLastD_eq_getLast?, List.getLast?_eq_getElem?, List.getElem?_eq_getElem (by omega)]
    simp only [hl]; rfl
  rw [e0, e1, e2]; simp

theorem fvS_ok (s : ByteArray) (h : 0 < s.size) (hok : okL s.data.toList = true) :
    fvS s = (!sotI (s[0].toNat : Int) && !sotI ((s[s.size - 1]'(by omega)).toNat : Int)) := by
  unfold fvS fvL; rw [hok, endsL_eq s h]; rfl

theorem fvS_empty (s : ByteArray) (h : s.size = 0) : fvS s = true := by
  have hl : s.data.toList = [] := by apply List.eq_nil_of_length_eq_zero; simpa using h
  unfold fvS; rw [hl]; rfl

/-! ### The laws' own mathematics -/
theorem fv_framed (l : List UInt8) : fvL ([120] ++ l ++ [120]) = okL l := by
  unfold fvL endsL
  have h1 : okL [120] = true := by decide
  rw [okL_append, okL_append, h1]
  have h2 : ([120] ++ l ++ [120] : List UInt8).headD 0 = 120 := by simp
  have h3 : ([120] ++ l ++ [120] : List UInt8).getLastD 0 = 120 := by rw [List.getLastD_eq_getLast?, List.getLast?_append]; rfl
  rw [h2, h3]
  have h4 : sotI ((120 : UInt8).toNat : Int) = false := by decide
  rw [h4]; simp

theorem fv_one (c : UInt8) : fvL [c] = (okI (c.toNat : Int) && !sotI (c.toNat : Int)) := by
  unfold fvL endsL; rw [okL_one]; simp

theorem vis_iff (n : Int) (h : 0 ≤ n) : (okI n && !sotI n) = decide (33 ≤ n ∧ n ≠ 127) := by
  unfold okI sotI
  rw [Bool.eq_iff_iff]; simp; omega

theorem okI_or (n : Int) : ((okI n && !sotI n) || sotI n) = okI n := by
  unfold okI sotI
  rw [Bool.eq_iff_iff]; simp; omega

theorem not_both (n : Int) : ((okI n && !sotI n) && sotI n) = false := by cases okI n <;> cases sotI n <;> rfl

end Go.Proofs.Qxb6630279a
