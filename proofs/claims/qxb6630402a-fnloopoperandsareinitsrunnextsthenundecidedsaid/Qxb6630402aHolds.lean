/-
  Leaves (values made by zzLeaf) and who they are; zzHolds of a pointer that the list does not hold; and how the words of this seat go from world to world.
-/
import Derived.Test.Qxb6630402aLoops
namespace Go.Proofs.Qxb6630402a
open Go.RowKit

/-- p is nil, or points into a block of one Value. -/
def LeafOk (w : World) (p : Option Addr) : Prop := ∀ a, p = some a → ∃ cs, w.heap[a.block]? = some (.cells cs 36 (0, 0))
theorem heap_lt {w : World} {b : Nat} {o : Obj} (h : w.heap[b]? = some o) : b < w.heap.size := by
  rcases Nat.lt_or_ge b w.heap.size with h' | h'
  · exact h'
  · rw [Array.getElem?_eq_none h'] at h; cases h
theorem LeafOk.below {w w' : World} {p : Option Addr} (h : LeafOk w p) (hb : Below w.heap.size w w') : LeafOk w' p := fun a e => by
  obtain ⟨cs, hc⟩ := h a e
  exact ⟨cs, (hb.block _ (heap_lt hc)).trans hc⟩
theorem LeafOk.ofNil (w : World) : LeafOk w none := fun a e => by cases e
theorem LeafOk.lt {w : World} {p : Option Addr} (h : LeafOk w p) : ∀ a, p = some a → a.block < w.heap.size := fun a e => by
  obtain ⟨cs, hc⟩ := h a e; exact heap_lt hc
/-- A store into a row of pointers turns no leaf. -/
theorem LeafOk.setCell {w : World} {p : Option Addr} (h : LeafOk w p) {g k : Nat} {c : Array Value} (hg : w.heap[g]? = some (.cells c 25 (0, 0))) (v : Value) : LeafOk (w.setCell ⟨g, k, none⟩ v) p := fun a e => by
  obtain ⟨cs, hc⟩ := h a e
  refine ⟨cs, (Below.heap_setCell w ⟨g, k, none⟩ v a.block ?_).trans hc⟩
  intro he
  have he' : a.block = g := he
  rw [he', hg] at hc
  simp at hc

theorem heap_new (w : World) (o : Obj) : (w.alloc o).heap[w.heap.size]? = some o := by show (w.heap.push _)[_]? = _; simp

/-- A leaf came back, or nil. -/
def LeafBack (w : World) (set : Bool) (e : Ending) (w' : World) : Prop :=
  ∃ p : Option Addr, e = .returned (.pointer p) ∧ p.isSome = set ∧ LeafOk w' p ∧ (∀ a, p = some a → a = ⟨w.heap.size, 0, none⟩) ∧ Below w.heap.size w w'

theorem leaf2_any (k : Int) (w : World) : Calls Try.prog 7 #[.int .u64 k] w (LeafBack w true) := by
  go_enter Try.func7, Try.ntmps7
  go_wp2
  go_ret
  refine ⟨_, rfl, rfl, fun a e => ?_, fun a e => (Option.some.inj e).symm, (Below.refl _ _).alloc (Nat.le_refl _) _⟩
  obtain rfl := (Option.some.inj e).symm
  exact ⟨_, heap_new w _⟩

theorem leafIf2_any (set : Bool) (k : Int) (w : World) : Calls Try.prog 6 #[.bool set, .int .u64 k] w (LeafBack w set) := by
  cases set with
  | false =>
    go_enter Try.func6, Try.ntmps6
    go_wp2
    go_ret
    exact ⟨none, rfl, rfl, LeafOk.ofNil _, (fun a e => by cases e), Below.refl _ _⟩
  | true =>
    go_enter Try.func6, Try.ntmps6
    go_wp2_with fail
    refine (leaf2_any k w).mono ?_
    rintro e w' ⟨p, rfl, h⟩
    go_wp2
    go_ret
    exact ⟨p, rfl, h⟩

/-- A pointer against another leaf. -/
theorem eql_other {w : World} {p : Option Addr} {mk : Addr} (hp : LeafOk w p) (hm : LeafOk w (some mk)) (hne : p ≠ some mk) : (binOp .eql 25 (.pointer p) (.pointer (some mk))).run Try.prog w = .ok (.bool false) w := by
  cases p with
  | none =>
    have h : ∀ d : Nat, (Op.equalIn (d + 1) 25 (.pointer none) (.pointer (some mk))).run Try.prog w = .ok false w := fun d => by
      simp [Op.equalIn, run_underlying Try.underlying25]
    simp only [binOp]
    simp [Op.equal, Op.maxDepth, h 9999]
  | some a =>
    obtain ⟨ca, ha⟩ := hp a rfl
    obtain ⟨cb, hb⟩ := hm mk rfl
    obtain ⟨j, hj⟩ := Option.isSome_iff_exists.1 Try.info36
    have hsz : j.size ≠ 0 := by
      have h := Try.size36
      rw [hj] at h
      simpa using h
    exact run_eql_ptr_other w Try.underlying25 hj hsz (fun e => hne (by rw [e])) ha hb

set_option maxHeartbeats 1000000 in
/-- zzHolds of a pointer that the list does not hold. -/
theorem holds_any (ao : Option Addr) (n cap : Nat) (l : List (Option Addr)) (mk : Addr) (hl : l.length = n) (hn : n ≤ 1048576) (w : World) (hs : Ptrs w ao l) (hm : LeafOk w (some mk)) (hp : ∀ p ∈ l, LeafOk w p ∧ p ≠ some mk) :
    Calls Try.prog 10 #[.slice ao n cap, .pointer (some mk)] w fun e w' => e = .returned (.bool false) ∧ w' = w := by
  have HL := hid_mk hl
  have HS := hid_mk hs
  have HM := hid_mk hm
  have HP := hid_mk hp
  clear hl hs hm hp
  go_enter Try.func10, Try.ntmps10
  go_wp2
  go_loop [5] (fun c => ∃ k : Nat, k ≤ n ∧ c = .int .i64 k) (fun c => n - (intOf c).toNat)
  case atStart => exact ⟨0, Nat.zero_le _, rfl⟩
  case round =>
    obtain ⟨k, hk, rfl⟩ := hrel
    by_cases hlt : k < n
    · obtain ⟨x, hx⟩ := getOf HL.out hlt
      obtain ⟨b, o, e1, hc1⟩ := HS.out k x hx
      have hpx := HP.out x (List.mem_of_getElem? hx)
      have heq := eql_other hpx.1 HM.out hpx.2
      subst e1
      clear hx hpx
      go_wp2
      go_round
      case rel => exact ⟨k + 1, by omega, by go_num⟩
      case measure => simp [intOf]; omega
    · go_wp2
      go_ret
      exact ⟨rfl, rfl⟩

/-- What a []bool that came in is. -/
def Bools (w : World) (ao : Option Addr) (n : Nat) : Prop := ∀ i, i < n → ∃ b o v, ao = some ⟨b, o, none⟩ ∧ w.cell? ⟨b, o + i, none⟩ = some (.bool v)

/-- A row of pointers, as a list. -/
theorem ptrs_of_row {w : World} {b n : Nat} {f : Nat → Option Addr} (h : w.rowIs b 25 n (fun j => .pointer (f j))) : Ptrs w (some ⟨b, 0, none⟩) ((List.range n).map f) := fun i p hp => by
  have hi : i < n := by have := lt_len hp; simpa using this
  have e : f i = p := by simpa [List.getElem?_map, List.getElem?_range hi] using hp
  exact ⟨b, 0, rfl, by rw [Nat.zero_add, h.cell hi, e]⟩
theorem rowIs_below {w w' : World} {b n : Nat} {t : TypeId} {f : Nat → Value} (h : w.rowIs b t n f) (hb : Below w.heap.size w w') : w'.rowIs b t n f := h.of_block (hb.block b h.lt)

/-- What the call owns, as a list of pointers. -/
theorem ptrs_of_owns {w : World} {base g n cap : Nat} {l : List (Option Addr)} (h : w.ownsRow base 25 1 (.slice (some ⟨g, 0, none⟩) n cap) n (l.map Value.pointer)) : Ptrs w (some ⟨g, 0, none⟩) l := fun i p hp => by
  have hlen : l.length = n := by have := h.1; simpa using this
  have hi := lt_len hp
  refine ⟨g, 0, rfl, ?_⟩
  rw [Nat.zero_add, h.cellAt i (by omega), List.getElem?_map, hp]; rfl

/-- But for block g the heap is as it was. -/
def OffEq (g : Nat) (w w' : World) : Prop := ∀ b, b ≠ g → w'.heap[b]? = w.heap[b]?
theorem OffEq.refl (g : Nat) (w : World) : OffEq g w w := fun _ _ => rfl
theorem OffEq.setCell {g : Nat} {w w' : World} (h : OffEq g w w') (k : Nat) (v : Value) : OffEq g w (w'.setCell ⟨g, k, none⟩ v) := fun b hb => (Below.heap_setCell w' ⟨g, k, none⟩ v b hb).trans (h b hb)
theorem Ptrs.off {w w' : World} {ao : Option Addr} {l : List (Option Addr)} {g : Nat} (h : Ptrs w ao l) (ho : OffEq g w w') (hne : ∀ b o, ao = some ⟨b, o, none⟩ → b ≠ g) : Ptrs w' ao l := fun i p hp => by
  obtain ⟨b, o, e, hc⟩ := h i p hp
  exact ⟨b, o, e, (World.cell?_of_block (a := ⟨b, o + i, none⟩) (ho b (hne b o e))).trans hc⟩
theorem LeafOk.off {w w' : World} {p : Option Addr} {g : Nat} (h : LeafOk w p) (ho : OffEq g w w') (hne : ∀ a, p = some a → a.block ≠ g) : LeafOk w' p := fun a e => by
  obtain ⟨cs, hc⟩ := h a e
  exact ⟨cs, (ho _ (hne a e)).trans hc⟩
theorem ptrs_left {w : World} {ao : Option Addr} {l m : List (Option Addr)} (h : Ptrs w ao (l ++ m)) : Ptrs w ao l := fun i p hp => h i p (by rw [List.getElem?_append_left (lt_len hp)]; exact hp)
theorem own_form {w : World} {base n : Nat} {v : Value} {xs : List Value} (h : w.ownsRow base 25 1 v n xs) (hn : 0 < n) : ∃ g cap, v = .slice (some ⟨g, 0, none⟩) n cap ∧ base ≤ g ∧ g < w.heap.size ∧ n ≤ cap ∧ cap ≤ maxLen := by
  rcases h.2 with ⟨_, h0⟩ | ⟨g, cap, cur, hv, hb, hg, hc, hm, _⟩
  · omega
  · exact ⟨g, cap, hv, hb, heap_lt hg, hc, hm⟩
theorem take_snoc {α : Type} {l : List α} {i : Nat} {x : α} (h : l[i]? = some x) : l.take (i + 1) = l.take i ++ [x] := by
  obtain ⟨hi, rfl⟩ := List.getElem?_eq_some_iff.1 h
  rw [List.take_succ_eq_append_getElem hi]

/-- What lay in a world before block g was there, after writes to block g alone. -/
theorem Ptrs.off' {w wM wx : World} {ao : Option Addr} {l : List (Option Addr)} {g : Nat} (h : Ptrs w ao l) (hb : Below w.heap.size w wM) (ho : OffEq g wM wx) (hg : w.heap.size ≤ g) : Ptrs wx ao l := fun i p hp => by
  obtain ⟨b, o, e, hc⟩ := h i p hp
  have hlt : b < w.heap.size := cell_lt hc
  exact ⟨b, o, e, (World.cell?_of_block (a := ⟨b, o + i, none⟩) (ho b (by omega))).trans ((hb.cell (p := ⟨b, o + i, none⟩) hlt).trans hc)⟩
theorem LeafOk.off' {w wM wx : World} {p : Option Addr} {g : Nat} (h : LeafOk w p) (hb : Below w.heap.size w wM) (ho : OffEq g wM wx) (hg : w.heap.size ≤ g) : LeafOk wx p := fun a e => by
  have hlt := h.lt a e
  obtain ⟨cs, hc⟩ := h a e
  exact ⟨cs, (ho _ (by omega)).trans ((hb.block _ hlt).trans hc)⟩
theorem LeafOk.ne {w : World} {p : Option Addr} {mk : Addr} (h : LeafOk w p) (hm : w.heap.size ≤ mk.block) : p ≠ some mk := fun e => by
  have := h.lt mk e; omega
theorem owns_below {w w' : World} {base e n size : Nat} {v : Value} {xs : List Value} (h : w.ownsRow base e size v n xs) (hb : Below w.heap.size w w') : w'.ownsRow base e size v n xs := by
  obtain ⟨h1, h | ⟨g, cap, cur, hv, hg, hc, r⟩⟩ := h
  · exact ⟨h1, .inl h⟩
  · exact ⟨h1, .inr ⟨g, cap, cur, hv, hg, (hb.block g (heap_lt hc)).trans hc, r⟩⟩
end Go.Proofs.Qxb6630402a
