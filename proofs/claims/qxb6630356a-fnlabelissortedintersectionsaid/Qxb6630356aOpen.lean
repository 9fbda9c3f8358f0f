/-
  A [][]string THAT CAME IN, OPENED: what the walks are told of it.
-/
import Derived.Test.Qxb6630356aLaw4
import Derived.ProofKit
import Derived.Deep.Strs
namespace Go.Proofs.Qxb6630356a
open Go.ChangeShapes Go.WideShapes Go.RowKit

theorem Try.cells9 : Try.prog.cellsOf 9 = 1 := by kernel_rfl
theorem Try.cells26 : Try.prog.cellsOf 26 = 1 := by kernel_rfl

section
variable {H : Type} {enc : TypeId × Value → H} {W : World}

theorem strs_of_trod {fuel : Nat} {v : Value} {x : DataW H × List MemPlace} (h : DataW.trod enc Try.prog W 0 (fun _ => true) true fuel 26 [v] = some x) :
    ∃ ao l c, v = .slice ao (List.length l) c ∧ l.length ≤ c ∧ l.length ≤ maxLen ∧ Strs W ao l := by
  rcases Go.Deep.open_strs Try.underlying26 Try.underlying9 Try.cells9 h with ⟨hcs, _⟩ | ⟨a, len, cap, m, Sx, hcs, _, hl, hm, hmm, _, hx⟩
  · exact ⟨none, [], 0, by simpa using hcs, Nat.le_refl _, Nat.zero_le _, Strs.nil _ _⟩
  · simp only [if_true] at hmm
    subst hmm
    refine ⟨some a, (List.range len).map Sx, m, by simpa using hcs, by simpa using hl, by simp; omega, fun i y hy => ?_⟩
    have hi : i < len := by have := (List.getElem?_eq_some_iff.1 hy).1; simpa using this
    have hy' : Sx i = y := by simpa [List.getElem?_map, List.getElem?_range hi] using hy
    have hc := (hx i (by omega)).1
    have hc0 := (hx 0 (by omega)).1
    obtain ⟨b, o, spot⟩ := a
    have hspot : spot = none := by simpa [Addr.add] using World.cell?_spot hc0
    subst hspot
    rw [addp, hy'] at hc
    exact ⟨b, o, rfl, hc⟩

theorem isMat_of_trod {fuel : Nat} {a0 : Option Addr} {len0 cap0 : Nat} {x : DataW H × List MemPlace} (h : DataW.trod enc Try.prog W 0 (fun _ => true) true fuel 22 [.slice a0 len0 cap0] = some x) :
    ∃ rows, IsMat W a0 len0 rows := by
  rcases Go.Deep.open_slice1 Try.underlying22 Try.cells26 h with ⟨hcs, _⟩ | ⟨a, len, cap, m, n, V, D, Pl, hcs, _, hl, hm, hmm, _, hx⟩
  · simp at hcs
    obtain ⟨rfl, rfl, rfl⟩ := hcs
    exact ⟨[], rfl, Nat.zero_le _, (fun r l e => by simp at e), fun r l e => by simp at e⟩
  · simp at hcs
    obtain ⟨rfl, rfl, rfl⟩ := hcs
    simp only [if_true] at hmm
    subst hmm
    obtain ⟨R, hR⟩ := Go.Deep.choose_lt (α := List ByteArray) (p := fun i l => ∃ ao c, V i = .slice ao l.length c ∧ l.length ≤ c ∧ l.length ≤ maxLen ∧ Strs W ao l) (n := len0) (fun i hi => by
      obtain ⟨ao, l, c, h1, h2, h3, h4⟩ := strs_of_trod (hx i (by omega)).2
      exact ⟨l, ao, c, h1, h2, h3, h4⟩)
    have key : ∀ (r : Nat) (l : List ByteArray), ((List.range len0).map R)[r]? = some l → r < len0 ∧ R r = l := fun r l hl' => by
      have hi : r < len0 := by have := (List.getElem?_eq_some_iff.1 hl').1; simpa using this
      exact ⟨hi, by simpa [List.getElem?_map, List.getElem?_range hi] using hl'⟩
    refine ⟨(List.range len0).map R, by simp, by omega, fun r l hl' => ?_, fun r l hl' => ?_⟩
    · obtain ⟨hi, rfl⟩ := key r l hl'
      obtain ⟨_, _, _, _, h3, _⟩ := hR r hi
      exact h3
    · obtain ⟨hi, rfl⟩ := key r l hl'
      obtain ⟨ao, c, h1, h2, _, h4⟩ := hR r hi
      have hc := (hx r (by omega)).1
      have hc0 := (hx 0 (by omega)).1
      obtain ⟨b, o, spot⟩ := a
      have hspot : spot = none := by simpa [Addr.add] using World.cell?_spot hc0
      subst hspot
      rw [addp, h1] at hc
      exact ⟨b, o, ao, c, rfl, hc, h2, h4⟩
end
end Go.Proofs.Qxb6630356a
