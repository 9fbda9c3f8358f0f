/-
  HOW A []*Value LIES IN MEMORY; zzLeaf, zzLeafIf, zzSamePtrs; and (*Value).Operands of a value that is no loop.
-/
import Derived.Test.Qxb6630402aRows
import Derived.WalkKit
import Derived.WalkSpells
import Derived.WalkLawsBesides
import Derived.Deep.QuietTactic
import Derived.BigQuiet
import Derived.Deep.OwnRows
import Derived.RegionTactic
import Derived.LaidEqlPtr
import Derived.Laws.Pointers
namespace Go.Proofs.Qxb6630402a
open Go.RowKit

theorem hid_mk {p : Prop} (h : p) : Hid p := h
theorem ret_bool {a b : Bool} (h : a = b) : Ending.returned (.bool a) = .returned (.bool b) := by rw [h]

theorem cell_lt {w : World} {a : Addr} {v : Value} (h : w.cell? a = some v) : a.block < w.heap.size := by
  rcases Nat.lt_or_ge a.block w.heap.size with h' | h'
  · exact h'
  · have e : w.heap[a.block]? = none := Array.getElem?_eq_none h'
    simp [World.cell?, e] at h

/-- The pointers l lie behind the slice address ao. -/
def Ptrs (w : World) (ao : Option Addr) (l : List (Option Addr)) : Prop :=
  ∀ (i : Nat) (p : Option Addr), l[i]? = some p → ∃ b o, ao = some ⟨b, o, none⟩ ∧ w.cell? ⟨b, o + i, none⟩ = some (.pointer p)

theorem Ptrs.below {w w' : World} {ao : Option Addr} {l : List (Option Addr)} (h : Ptrs w ao l) (hb : Below w.heap.size w w') : Ptrs w' ao l := fun i x hx => by
  obtain ⟨b, o, e, hc⟩ := h i x hx
  exact ⟨b, o, e, (hb.cell (cell_lt hc)).trans hc⟩
theorem Ptrs.drewN {w : World} {ao : Option Addr} {l : List (Option Addr)} (h : Ptrs w ao l) (m : Nat) : Ptrs (w.drewN m) ao l := h
theorem Ptrs.nil (w : World) (ao : Option Addr) : Ptrs w ao [] := fun i x hx => by simp at hx
theorem below_drewN' {B : Nat} {a w : World} (h : Below B a w) (m : Nat) : Below B a (w.drewN m) := ⟨h.os, h.tape, h.output, h.size, h.block⟩
theorem ext {a b c : World} (h : Below a.heap.size a b) (k : Below b.heap.size b c) : Below a.heap.size a c := h.trans (k.mono h.size)
theorem drewN_add (w : World) (a b : Nat) : (w.drewN a).drewN b = w.drewN (a + b) := by simp [World.drewN, Nat.add_assoc]
theorem getOf {α : Type} {l : List α} {n k : Nat} (hl : l.length = n) (hk : k < n) : ∃ x, l[k]? = some x := ⟨l[k]'(by omega), List.getElem?_eq_getElem _⟩
theorem lt_len {α : Type} {l : List α} {i : Nat} {x : α} (h : l[i]? = some x) : i < l.length := (List.getElem?_eq_some_iff.1 h).1

theorem Try.info36 : (Try.prog.info? 36).isSome = true := by kernel_rfl
theorem Try.size36 : ((Try.prog.info? 36).map fun i => decide (i.size ≠ 0)) = some true := by kernel_rfl

/-- A pointer against itself. -/
theorem neq_same (p : Option Addr) (w : World) : (binOp .neq 25 (.pointer p) (.pointer p)).run Try.prog w = .ok (.bool false) w := by
  obtain ⟨j, hj⟩ := Option.isSome_iff_exists.1 Try.info36
  cases p with
  | none => 
    have h : ∀ d : Nat, (Op.equalIn (d + 1) 25 (.pointer none) (.pointer none)).run Try.prog w = .ok true w := fun d => by
      simp [Op.equalIn, run_underlying Try.underlying25]
    simp only [binOp]
    simp [Op.equal, Op.maxDepth, h 9999]
  | some a =>
    have h : ∀ d : Nat, (Op.equalIn (d + 1) 25 (.pointer (some a)) (.pointer (some a))).run Try.prog w = .ok true w := fun d => by
      simp [Op.equalIn, run_underlying Try.underlying25, sizeOf, typeInfo, hj, run_sameAddr_same]
    simp only [binOp]
    simp [Op.equal, Op.maxDepth, h 9999]

/-- A pointer came back: nil unless 'set'; else to a block of its own. -/
def PtrBack (w : World) (set : Bool) (e : Ending) (w' : World) : Prop :=
  ∃ p : Option Addr, e = .returned (.pointer p) ∧ p.isSome = set ∧ (∀ a, p = some a → a.block = w.heap.size ∧ a.block < w'.heap.size) ∧ Below w.heap.size w w'

theorem leaf_any (k : Int) (w : World) : Calls Try.prog 7 #[.int .u64 k] w (PtrBack w true) := by
  go_enter Try.func7, Try.ntmps7
  go_wp2
  go_ret
  exact ⟨_, rfl, rfl, fun a e => by obtain rfl := (Option.some.inj e).symm; simp, (Below.refl _ _).alloc (Nat.le_refl _) _⟩

theorem leafIf_any (set : Bool) (k : Int) (w : World) : Calls Try.prog 6 #[.bool set, .int .u64 k] w (PtrBack w set) := by
  cases set with
  | false =>
    go_enter Try.func6, Try.ntmps6
    go_wp2
    go_ret
    exact ⟨none, rfl, rfl, (fun a e => by cases e), Below.refl _ _⟩
  | true =>
    go_enter Try.func6, Try.ntmps6
    go_wp2_with fail
    refine (leaf_any k w).mono ?_
    rintro e w' ⟨p, rfl, h⟩
    go_wp2
    go_ret
    exact ⟨p, rfl, h⟩

set_option maxHeartbeats 1000000 in
/-- zzSamePtrs of one list, lying twice: it says true. -/
theorem same_any (ao ao' : Option Addr) (n n' cap cap' : Nat) (l : List (Option Addr)) (hl : l.length = n) (hl' : l.length = n') (hn : n ≤ 1048576) (w : World) (hs : Ptrs w ao l) (hs' : Ptrs w ao' l) :
    Calls Try.prog 9 #[.slice ao n cap, .slice ao' n' cap'] w fun e w' => e = .returned (.bool true) ∧ ∃ m, w' = w.drewN m := by
  obtain rfl : n = n' := by omega
  have HL := hid_mk hl
  have HS := hid_mk hs
  have HS' := hid_mk hs'
  clear hl hl' hs hs'
  go_enter Try.func9, Try.ntmps9
  go_wp2
  go_loopw [5] (fun c wr => ∃ k m : Nat, k ≤ n ∧ c = .int .i64 k ∧ wr = w.drewN m) (fun c _ => n - (intOf c).toNat)
  case atStart => exact ⟨0, 0, Nat.zero_le _, rfl, rfl⟩
  case round =>
    obtain ⟨k, m, hk, rfl, rfl⟩ := hrel
    by_cases hlt : k < n
    · obtain ⟨x, hx⟩ := getOf HL.out hlt
      obtain ⟨b, o, e1, hc1⟩ := HS.out k x hx
      obtain ⟨b', o', e2, hc2⟩ := HS'.out k x hx
      subst e1 e2
      clear hx
      have i1 : (0 : Int) ≤ (k : Int) := by omega
      have i2 : (k : Int) < (n : Int) := by omega
      have hne := fun wx => neq_same x wx
      have hw1 : (w.drewN m).cell? ⟨b, o + k, none⟩ = some (.pointer x) := hc1
      have hw2 : (w.drewN m).cell? ⟨b', o' + k, none⟩ = some (.pointer x) := hc2
      go_wp2_with fail
      go_quiet (fail)
      go_wp2
      go_roundw
      case rel => exact ⟨k + 1, _, by omega, by go_num, rfl⟩
      case measure => simp [intOf]; omega
    · go_wp2
      go_ret
      exact ⟨rfl, _, rfl⟩
end Go.Proofs.Qxb6630402a
