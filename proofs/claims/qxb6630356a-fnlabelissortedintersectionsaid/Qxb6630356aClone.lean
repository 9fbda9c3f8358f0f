/-
  zzlCloneRow, zzlCloneRows: what comes back reads as what went in, and lies in new memory.
-/
import Derived.Test.Qxb6630356aBounds
import Derived.Lib.LazyBuf
namespace Go.Proofs.Qxb6630356a
open Go.RowKit

theorem Try.info9 : (Try.prog.info? 9).map (fun i => (i.zero, i.size, i.bytes)) = some (some (.string ByteArray.empty), 1, 16) := by kernel_rfl
theorem Try.info26 : (Try.prog.info? 26).map (fun i => (i.zero, i.size, i.bytes)) = some (some (.slice none 0 0), 1, 24) := by kernel_rfl

/-- A row's clone came back: a slice in new memory that reads as l. -/
def RowBack (w : World) (n : Nat) (l : List ByteArray) (e : Ending) (w' : World) : Prop :=
  ∃ ao', e = .returned (.slice ao' n n) ∧ Strs w' ao' l ∧ (∀ b o, ao' = some ⟨b, o, none⟩ → w.heap.size ≤ b) ∧ Below w.heap.size w w'

set_option maxHeartbeats 1000000 in
theorem crow_any (ao : Option Addr) (n cap : Nat) (l : List ByteArray) (hl : l.length = n) (hn : n ≤ 1048576) (w : World) (hs : Strs w ao l) :
    Calls Try.prog 14 #[.slice ao n cap] w (RowBack w n l) := by
  have hnl := fun wx => run_eql_slice_nil (P := Try.prog) wx 26 9 ao n cap Try.underlying26
  have HL := hid_mk hl
  have HS := hid_mk hs
  clear hl hs
  cases ao with
  | none =>
    have hl0 : l = [] := by
      cases l with
      | nil => rfl
      | cons x t => obtain ⟨b, o, e, _⟩ := HS.out 0 x rfl; cases e
    have HR : Hid (RowBack w n l (.returned (.slice none 0 0)) w) := by
      have := HL.out; subst hl0
      have h0 : n = 0 := by simpa using this.symm
      subst h0
      exact ⟨none, rfl, Strs.nil _ _, (fun b o h => by cases h), Below.refl _ _⟩
    clear hl0
    simp only [Option.isNone_none] at hnl
    go_enter Try.func14, Try.ntmps14
    go_wp2
    go_ret
    exact HR.out
  | some a =>
    simp only [Option.isNone_some] at hnl
    have hmk := run_make_row' (P := Try.prog) 26 9 (.string ByteArray.empty) 16 Try.underlying26 Try.info9 rfl .i64 .i64 n (by omega) (by omega)
    go_enter Try.func14, Try.ntmps14
    go_wp2
    clear hmk hnl
    go_loopw [4] (fun c wr => ∃ (k : Nat) (f : Nat → ByteArray), k ≤ n ∧ c = .int .i64 k ∧ wr.rowIs w.heap.size 9 n (fun j => .string (f j)) ∧ (∀ j x, j < k → l[j]? = some x → f j = x) ∧ Below w.heap.size w wr) (fun c _ => n - (intOf c).toNat)
    case atStart => exact ⟨0, fun _ => ByteArray.empty, Nat.zero_le _, rfl, World.rowIs_made _ _ _ _, fun j x h => absurd h (by omega), (Below.refl _ _).alloc (Nat.le_refl _) _⟩
    case round =>
      obtain ⟨k, f, hk, rfl, hrow, hf, hb⟩ := hrel
      have HF := hid_mk hf
      have HR := hid_mk hrow
      have HB := hid_mk hb
      clear hf hrow hb
      by_cases hlt : k < n
      · obtain ⟨x, hx⟩ := getOf HL.out hlt
        obtain ⟨b, o, e1, hc1⟩ := HS.out k x hx
        obtain rfl : a = ⟨b, o, none⟩ := by simpa using e1
        have HX := hid_mk hx
        have hcx : wr.cell? ⟨b, o + k, none⟩ = some (.string x) := (HB.out.cell (cell_lt hc1)).trans hc1
        have hcell := HR.out.cell hlt
        have hfr := HR.out.frozen k
        clear hx e1 hc1
        go_wp2
        go_roundw
        case rel =>
          refine ⟨k + 1, fun j => if j = k then x else f j, by omega, by go_num, (HR.out.set k _).congr (fun j _ => ?_), fun j y hj hy => ?_, HB.out.setCell (Nat.le_refl _) _⟩
          · by_cases e : j = k <;> simp [e]
          · by_cases e : j = k
            · subst e
              rw [HX.out] at hy; injection hy with hy
              simpa using hy
            · simp only [e, if_false]; exact HF.out j y (by omega) hy
        case measure => simp [intOf]; omega
      · have HE : Hid (RowBack w n l (.returned (.slice (some ⟨w.heap.size, 0, none⟩) n n)) wr) := by
          refine ⟨_, rfl, fun i x hx => ⟨_, _, rfl, ?_⟩, fun b o h => ?_, HB.out⟩
          · have hi : i < n := by have := lt_len hx; have := HL.out; omega
            rw [Nat.zero_add, HR.out.cell hi, HF.out i x (by omega) hx]
          · injection h with h; injection h with h1 _ _; omega
        go_wp2
        go_ret
        exact HE.out

/-- The rows' clone came back: a slice in new memory that reads as rows. -/
def MatBack (w : World) (n : Nat) (rows : List (List ByteArray)) (e : Ending) (w' : World) : Prop :=
  ∃ ao', e = .returned (.slice ao' n n) ∧ Mat w' ao' rows ∧ (ao' = none → n = 0) ∧ Below w.heap.size w w'

theorem rowIs_below {w w' : World} {b n : Nat} {t : TypeId} {f : Nat → Value} (h : w.rowIs b t n f) (hb : Below w.heap.size w w') : w'.rowIs b t n f := h.of_block (hb.block b h.lt)

set_option maxHeartbeats 2000000 in
theorem crows_any (ao : Option Addr) (n cap : Nat) (rows : List (List ByteArray)) (hl : rows.length = n) (hn : n ≤ 65536) (hr : ∀ (r : Nat) (l : List ByteArray), rows[r]? = some l → l.length ≤ 1048576) (w : World) (hm : Mat w ao rows) :
    Calls Try.prog 8 #[.slice ao n cap] w (MatBack w n rows) := by
  have hnl := fun wx => run_eql_slice_nil (P := Try.prog) wx 22 26 ao n cap Try.underlying22
  have HL := hid_mk hl
  have HM := hid_mk hm
  have HRR := hid_mk hr
  clear hl hm hr
  cases ao with
  | none =>
    have hl0 : rows = [] := by
      cases rows with
      | nil => rfl
      | cons x t => obtain ⟨b, o, _, _, e, _⟩ := HM.out 0 x rfl; cases e
    have HR : Hid (MatBack w n rows (.returned (.slice none 0 0)) w) := by
      have := HL.out; subst hl0
      have h0 : n = 0 := by simpa using this.symm
      subst h0
      exact ⟨none, rfl, (fun r l h => by simp at h), fun _ => rfl, Below.refl _ _⟩
    clear hl0
    simp only [Option.isNone_none] at hnl
    go_enter Try.func8, Try.ntmps8
    go_wp2
    go_ret
    exact HR.out
  | some a =>
    simp only [Option.isNone_some] at hnl
    have hmk := run_make_row' (P := Try.prog) 22 26 (.slice none 0 0) 24 Try.underlying22 Try.info26 rfl .i64 .i64 n (by omega) (by omega)
    go_enter Try.func8, Try.ntmps8
    go_wp2
    clear hmk hnl
    go_loopw [4] (fun c wr => ∃ (k : Nat) (V : Nat → Value), k ≤ n ∧ c = .int .i64 k ∧ wr.rowIs w.heap.size 26 n V
        ∧ (∀ (j : Nat) (l : List ByteArray), j < k → rows[j]? = some l → ∃ a' c', V j = .slice a' l.length c' ∧ l.length ≤ c' ∧ Strs wr a' l ∧ ∀ b o, a' = some ⟨b, o, none⟩ → w.heap.size < b) ∧ Below w.heap.size w wr) (fun c _ => n - (intOf c).toNat)
    case atStart => exact ⟨0, fun _ => .slice none 0 0, Nat.zero_le _, rfl, World.rowIs_made _ _ _ _, fun j x h => absurd h (by omega), (Below.refl _ _).alloc (Nat.le_refl _) _⟩
    case round =>
      obtain ⟨k, V, hk, rfl, hrow, hf, hb⟩ := hrel
      have HF := hid_mk hf
      have HR := hid_mk hrow
      have HB := hid_mk hb
      clear hf hrow hb
      by_cases hlt : k < n
      · obtain ⟨l, hx⟩ := rowOf HL.out hlt
        obtain ⟨b, o, a0, c0, e1, hc1, _, hs1⟩ := HM.out k l hx
        obtain rfl : a = ⟨b, o, none⟩ := by simpa using e1
        have HX := hid_mk hx
        have hlb := HRR.out k l hx
        have hcx : wr.cell? ⟨b, o + k, none⟩ = some (.slice a0 l.length c0) := (HB.out.cell (cell_lt hc1)).trans hc1
        have HS := hid_mk (hs1.below HB.out)
        obtain ⟨L, hL⟩ : ∃ L, l.length = L := ⟨_, rfl⟩
        rw [hL] at hcx hlb
        have HLl := hid_mk hL
        clear hx e1 hc1 hs1 hL
        go_wp2_with fail
        refine (crow_any a0 L c0 l HLl.out hlb _ HS.out).mono ?_
        rintro e w1 ⟨ao', rfl, h1, h2, h3⟩
        have HR1 := hid_mk (rowIs_below HR.out h3)
        have hcell := HR1.out.cell hlt
        have hfr := HR1.out.frozen k
        have H1 := hid_mk h1
        have H2 := hid_mk h2
        have H3 := hid_mk h3
        clear h1 h2 h3
        go_wp2
        go_roundw
        case rel =>
          have hBlt := HR.out.lt
          refine ⟨k + 1, fun j => if j = k then .slice ao' L L else V j, by omega, by go_num, (HR1.out.set k _).congr (fun j _ => rfl), fun j y hj hy => ?_, (HB.out.trans (H3.out.mono (by omega))).setCell (Nat.le_refl _) _⟩
          by_cases e : j = k
          · subst e
            rw [HX.out] at hy; injection hy with hy; subst hy
            refine ⟨ao', L, by simp [HLl.out], Nat.le_of_eq HLl.out, H1.out.setCell _ (fun b o h => ?_), fun b o h => ?_⟩
            · have := H2.out b o h; show b ≠ w.heap.size; omega
            · have := H2.out b o h; omega
          · obtain ⟨a', c', q1, q0, q2, q3⟩ := HF.out j y (by omega) hy
            refine ⟨a', c', by simp [e, q1], q0, (q2.below H3.out).setCell _ (fun b o h => ?_), q3⟩
            have := q3 b o h; show b ≠ w.heap.size; omega
        case measure => simp [intOf]; omega
      · have HE : Hid (MatBack w n rows (.returned (.slice (some ⟨w.heap.size, 0, none⟩) n n)) wr) := by
          refine ⟨_, rfl, fun r l hx => ?_, (fun h => by cases h), HB.out⟩
          have hi : r < n := by have := (List.getElem?_eq_some_iff.1 hx).1; have := HL.out; omega
          obtain ⟨a', c', q1, q0, q2, _⟩ := HF.out r l (by omega) hx
          exact ⟨_, _, a', c', rfl, by rw [Nat.zero_add, HR.out.cell hi, q1], q0, q2⟩
        go_wp2
        go_ret
        exact HE.out
end Go.Proofs.Qxb6630356a
