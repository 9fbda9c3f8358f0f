/-
  (*Value).Operands of a value that is no loop.
-/
import Derived.Test.Qxb6630402aBase
import Derived.Deep.RegionHeld3
import Derived.Deep.DrawnRows
namespace Go.Proofs.Qxb6630402a
open Go.RowKit
attribute [local go_sem ↓] Go.wp_at_zero Go.wp_at_succ

/-- X, Y and (Z, or else Mask), as far as the first nil. -/
def opsL (px py pm pz : Option Addr) : List (Option Addr) :=
  match px, py, pz, pm with
  | none, _, _, _ => []
  | some x, none, _, _ => [some x]
  | some x, some y, some z, _ => [some x, some y, some z]
  | some x, some y, none, none => [some x, some y]
  | some x, some y, none, some m => [some x, some y, some m]

/-- A slice of pointers came back. -/
def OpsBack (w : World) (l : List (Option Addr)) (e : Ending) (w' : World) : Prop :=
  ∃ ao cap, e = .returned (.slice ao l.length cap) ∧ Ptrs w' ao l ∧ Below w.heap.size w w'

set_option maxHeartbeats 1000000 in
theorem ops_nox (V : Nat) (op : Int) (hop : (op == 35) = false) (w : World) (c0 : w.cell? ⟨V, 0, none⟩ = some (.int .i64 op)) (c1 : w.cell? ⟨V, 1, none⟩ = some (.pointer none)) :
    Calls Try.prog 8 #[.pointer (some ⟨V, 0, none⟩)] w (OpsBack w []) := by
  go_enter Try.func8, Try.ntmps8
  go_wp2
  go_ret
  exact ⟨none, 0, rfl, Ptrs.nil _ _, Below.refl _ _⟩

set_option maxHeartbeats 1000000 in
theorem ops_x (V : Nat) (op : Int) (hop : (op == 35) = false) (x : Addr) (w : World) (c0 : w.cell? ⟨V, 0, none⟩ = some (.int .i64 op)) (c1 : w.cell? ⟨V, 1, none⟩ = some (.pointer (some x))) (c2 : w.cell? ⟨V, 2, none⟩ = some (.pointer none)) :
    Calls Try.prog 8 #[.pointer (some ⟨V, 0, none⟩)] w (OpsBack w [some x]) := by
  go_enter Try.func8, Try.ntmps8
  go_wp2
  go_ret
  refine ⟨_, _, rfl, fun i p hp => ⟨_, _, rfl, ?_⟩, (Below.refl _ _).alloc (Nat.le_refl _) _⟩
  match i, hp with
  | 0, hp => simp at hp; subst hp; simp

set_option maxHeartbeats 2000000 in
theorem ops_xy (V : Nat) (op : Int) (hop : (op == 35) = false) (x y : Addr) (w : World) (c0 : w.cell? ⟨V, 0, none⟩ = some (.int .i64 op)) (c1 : w.cell? ⟨V, 1, none⟩ = some (.pointer (some x))) (c2 : w.cell? ⟨V, 2, none⟩ = some (.pointer (some y)))
    (c3 : w.cell? ⟨V, 3, none⟩ = some (.pointer none)) (c4 : w.cell? ⟨V, 4, none⟩ = some (.pointer none)) :
    Calls Try.prog 8 #[.pointer (some ⟨V, 0, none⟩)] w (OpsBack w [some x, some y]) := by
  go_enter Try.func8, Try.ntmps8
  go_wp2
  go_region_held3 (fun w' => w'.cell? ⟨V, 1, none⟩ = some (.pointer (some x)) ∧ w'.cell? ⟨V, 2, none⟩ = some (.pointer (some y))) (go_keep) (fail)
  all_goals go_wp2
  all_goals go_ret
  all_goals
    refine ⟨_, _, rfl, fun i p hp => ⟨_, _, rfl, ?_⟩, ((Below.refl _ _).alloc (Nat.le_refl _) _).drew⟩
    match i, hp with
    | 0, hp => simp at hp; subst hp; simp
    | 1, hp => simp at hp; subst hp; simp

set_option maxHeartbeats 2000000 in
theorem ops_xyz (V : Nat) (op : Int) (hop : (op == 35) = false) (x y z : Addr) (w : World) (c0 : w.cell? ⟨V, 0, none⟩ = some (.int .i64 op)) (c1 : w.cell? ⟨V, 1, none⟩ = some (.pointer (some x))) (c2 : w.cell? ⟨V, 2, none⟩ = some (.pointer (some y)))
    (c4 : w.cell? ⟨V, 4, none⟩ = some (.pointer (some z))) :
    Calls Try.prog 8 #[.pointer (some ⟨V, 0, none⟩)] w (OpsBack w [some x, some y, some z]) := by
  go_enter Try.func8, Try.ntmps8
  go_wp2
  go_region_held3 (fun w' => w'.cell? ⟨V, 1, none⟩ = some (.pointer (some x)) ∧ w'.cell? ⟨V, 2, none⟩ = some (.pointer (some y)) ∧ w'.cell? ⟨V, 4, none⟩ = some (.pointer (some z))) (go_keep) (fail)
  all_goals go_wp2
  all_goals go_ret
  all_goals
    refine ⟨_, _, rfl, fun i p hp => ⟨_, _, rfl, ?_⟩, ((Below.refl _ _).alloc (Nat.le_refl _) _).drew⟩
    match i, hp with
    | 0, hp => simp at hp; subst hp; simp
    | 1, hp => simp at hp; subst hp; simp
    | 2, hp => simp at hp; subst hp; simp

set_option maxHeartbeats 2000000 in
theorem ops_xym (V : Nat) (op : Int) (hop : (op == 35) = false) (x y z : Addr) (w : World) (c0 : w.cell? ⟨V, 0, none⟩ = some (.int .i64 op)) (c1 : w.cell? ⟨V, 1, none⟩ = some (.pointer (some x))) (c2 : w.cell? ⟨V, 2, none⟩ = some (.pointer (some y)))
    (c3 : w.cell? ⟨V, 3, none⟩ = some (.pointer (some z))) (c4 : w.cell? ⟨V, 4, none⟩ = some (.pointer none)) :
    Calls Try.prog 8 #[.pointer (some ⟨V, 0, none⟩)] w (OpsBack w [some x, some y, some z]) := by
  go_enter Try.func8, Try.ntmps8
  go_wp2
  go_region_held3 (fun w' => w'.cell? ⟨V, 1, none⟩ = some (.pointer (some x)) ∧ w'.cell? ⟨V, 2, none⟩ = some (.pointer (some y)) ∧ w'.cell? ⟨V, 3, none⟩ = some (.pointer (some z))) (go_keep) (fail)
  all_goals go_wp2
  all_goals go_ret
  all_goals
    refine ⟨_, _, rfl, fun i p hp => ⟨_, _, rfl, ?_⟩, ((Below.refl _ _).alloc (Nat.le_refl _) _).drew⟩
    match i, hp with
    | 0, hp => simp at hp; subst hp; simp
    | 1, hp => simp at hp; subst hp; simp
    | 2, hp => simp at hp; subst hp; simp

theorem opn_any (V : Nat) (op : Int) (hop : (op == 35) = false) (px py pm pz : Option Addr) (w : World) (c0 : w.cell? ⟨V, 0, none⟩ = some (.int .i64 op)) (c1 : w.cell? ⟨V, 1, none⟩ = some (.pointer px)) (c2 : w.cell? ⟨V, 2, none⟩ = some (.pointer py))
    (c3 : w.cell? ⟨V, 3, none⟩ = some (.pointer pm)) (c4 : w.cell? ⟨V, 4, none⟩ = some (.pointer pz)) :
    Calls Try.prog 8 #[.pointer (some ⟨V, 0, none⟩)] w (OpsBack w (opsL px py pm pz)) := by
  cases px with
  | none => exact ops_nox V op hop w c0 c1
  | some x =>
    cases py with
    | none => exact ops_x V op hop x w c0 c1 c2
    | some y =>
      cases pz with
      | some z => exact ops_xyz V op hop x y z w c0 c1 c2 c4
      | none =>
        cases pm with
        | none => exact ops_xy V op hop x y w c0 c1 c2 c3 c4
        | some m => exact ops_xym V op hop x y m w c0 c1 c2 c3 c4

/-! ### The plain law -/
theorem ops_front (px py pm pz pt : Option Addr) (ht : pt = if pz.isNone then pm else pz) (k : Nat) (hk : k ≤ 3) (h1 : ∀ i, i < k → ∃ a, ([px, py, pt] : List (Option Addr))[i]? = some (some a)) (h2 : k = 3 ∨ ([px, py, pt] : List (Option Addr))[k]? = some none) :
    opsL px py pm pz = ([px, py, pt] : List (Option Addr)).take k := by
  subst ht
  match k, hk with
  | 0, _ =>
    have : px = none := by simpa using h2
    subst this; rfl
  | 1, _ =>
    obtain ⟨x, hx⟩ := h1 0 (by omega)
    have hx' : px = some x := by simpa using hx
    have hy : py = none := by simpa using h2
    subst hx' hy; rfl
  | 2, _ =>
    obtain ⟨x, hx⟩ := h1 0 (by omega)
    obtain ⟨y, hy⟩ := h1 1 (by omega)
    have hx' : px = some x := by simpa using hx
    have hy' : py = some y := by simpa using hy
    have hz : (if pz.isNone then pm else pz) = none := by simpa using h2
    subst hx' hy'
    cases pz with
    | none =>
      have : pm = none := by simpa using hz
      subst this; rfl
    | some z => simp at hz
  | 3, _ =>
    obtain ⟨x, hx⟩ := h1 0 (by omega)
    obtain ⟨y, hy⟩ := h1 1 (by omega)
    obtain ⟨z, hz⟩ := h1 2 (by omega)
    have hx' : px = some x := by simpa using hx
    have hy' : py = some y := by simpa using hy
    have hz' : (if pz.isNone then pm else pz) = some z := by simpa using hz
    subst hx' hy'
    cases pz with
    | none =>
      have : pm = some z := by simpa using hz'
      subst this; rfl
    | some z2 => rfl
end Go.Proofs.Qxb6630402a
