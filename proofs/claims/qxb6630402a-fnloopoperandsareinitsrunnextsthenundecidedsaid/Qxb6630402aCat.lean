/-
  slices.Grow (of nil), slices.Concat, (*Loop).decided: the pointers one list behind the other, in new memory.
-/
import Derived.Test.Qxb6630402aLaw4
import Derived.Lib.AppendZeros
import Derived.Deep.AppendLies
namespace Go.Proofs.Qxb6630402a
open Go.RowKit
attribute [local go_sem ↓] Go.wp_at_zero Go.wp_at_succ

theorem Try.info25 : (Try.prog.info? 25).map (fun i => (i.zero, i.size, i.bytes)) = some (some (.pointer none), 1, 8) := by kernel_rfl

/-- A slice of pointers came back, in new memory, the call's own. -/
def OwnBack (w : World) (l : List (Option Addr)) (e : Ending) (w' : World) : Prop :=
  ∃ v, e = .returned v ∧ w'.ownsRow w.heap.size 25 1 v l.length (l.map Value.pointer) ∧ Below w.heap.size w w'

set_option maxHeartbeats 1000000 in
theorem grow_any (n : Nat) (h1 : 1 ≤ n) (hn : n ≤ 1048576) (w : World) : Calls Try.prog 13 #[.slice none 0 0, .int .i64 n] w (OwnBack w []) := by
  obtain ⟨t0, ht0, hz0, hz1, hz2⟩ := info_parts Try.info25
  have hr : ∀ ty, _ := fun ty => Lib.run_append_nil_zeros (P := Try.prog) w 24 3 ty 25 t0 (.pointer none) .i64 .i64 Try.underlying24 Try.underlying3 ht0 hz0 n (by omega) (by omega) (by omega) (by rw [hz2]; omega)
  have hG := grownCap_ge w n 0 25
  have hG2 := grownCap_le_maxLen w n 0 25 (by unfold maxLen; omega)
  obtain ⟨G, hGe⟩ : ∃ G, grownCap w n 0 25 = G := ⟨_, rfl⟩
  rw [hGe] at hr hG hG2
  have HOW : Hid ((w.drew.alloc (.cells (Builtin.zeroCells (Value.pointer none).cells n ++ Builtin.zeroCells (Value.pointer none).cells (G - n)) 25)).ownsRow w.heap.size 25 1 (.slice (some ⟨w.heap.size, 0, none⟩) 0 G) 0 []) :=
    World.ownsRow_made w.drew _ G (Nat.le_refl _) hG2 (by
      have hc : (Value.pointer none).cells.size = 1 := rfl
      rw [Array.size_append, size_zeroCells, size_zeroCells, hc]; omega)
  have HBe : Hid (Below w.heap.size w (w.drew.alloc (.cells (Builtin.zeroCells (Value.pointer none).cells n ++ Builtin.zeroCells (Value.pointer none).cells (G - n)) 25))) := (Below.refl w.heap.size w).drew.alloc (Nat.le_refl _) _
  have HR := hid_mk hr
  have h63 : G ≤ 9223372036854775807 := by unfold maxLen at hG2; omega
  clear hr hGe ht0 hz0 hz1 hz2 hG2
  generalize (w.drew.alloc (.cells (Builtin.zeroCells (Value.pointer none).cells n ++ Builtin.zeroCells (Value.pointer none).cells (G - n)) 25)) = W1 at HOW HBe HR
  go_enter Try.func13, Try.ntmps13
  go_wp2_with (at_builtin; refine Lib.wpList_append_run _ rfl (.tmp 20) (.tmp 21) 24 3 rfl _ _ rfl rfl _ _ (HR.out _) ?_)
  go_ret
  exact ⟨_, rfl, HOW.out, HBe.out⟩

theorem addp (b o j : Nat) : (⟨b, o, none⟩ : Addr).add j = ⟨b, o + j, none⟩ := by unfold Addr.add; split <;> simp_all

/-- The cells of the pointers l, where they lie. -/
theorem ptrs_news {w : World} {a : Addr} {l : List (Option Addr)} (h : Ptrs w (some a) l) : ∀ j u, (l.map Value.pointer)[j]? = some u → w.cell? (a.add j) = some u := fun j u hu => by
  rw [List.getElem?_map] at hu
  obtain ⟨p, hp, rfl⟩ := Option.map_eq_some_iff.1 hu
  obtain ⟨b, o, e, hc⟩ := h j p hp
  obtain rfl : a = ⟨b, o, none⟩ := by simpa using e
  rw [addp]; exact hc
theorem ptr_oneCell (l : List (Option Addr)) : ∀ u ∈ l.map Value.pointer, u.oneCell' = true := fun u hu => by
  obtain ⟨p, _, rfl⟩ := List.mem_map.1 hu; rfl

/-- The first k lists, one behind the other. -/
def flat (Ls : List (List (Option Addr))) (k : Nat) : List (Option Addr) := (Ls.take k).flatten
/-- How many pointers they hold together. -/
def tot (Ls : List (List (Option Addr))) (k : Nat) : Nat := (flat Ls k).length
theorem flat_succ (Ls : List (List (Option Addr))) (k : Nat) (l : List (Option Addr)) (h : Ls[k]? = some l) : flat Ls (k + 1) = flat Ls k ++ l := by
  obtain ⟨hk, rfl⟩ := List.getElem?_eq_some_iff.1 h
  unfold flat
  rw [List.take_succ_eq_append_getElem hk, List.flatten_append]
  simp only [List.flatten_cons, List.flatten_nil, List.append_nil]
theorem tot_succ (Ls : List (List (Option Addr))) (k : Nat) (l : List (Option Addr)) (h : Ls[k]? = some l) : tot Ls (k + 1) = tot Ls k + l.length := by
  unfold tot; rw [flat_succ Ls k l h, List.length_append]
theorem flat_full (Ls : List (List (Option Addr))) (k : Nat) (h : Ls.length ≤ k) : flat Ls k = Ls.flatten := by
  unfold flat; rw [List.take_of_length_le h]
theorem tot_le (Ls : List (List (Option Addr))) (k : Nat) (T : Nat) (hT : Ls.flatten.length = T) : tot Ls k ≤ T := by
  unfold tot flat
  have e : Ls.flatten = (Ls.take k).flatten ++ (Ls.drop k).flatten := by rw [← List.flatten_append, List.take_append_drop]
  rw [← hT, e, List.length_append]; omega

set_option maxHeartbeats 2000000 in
/-- slices.Concat -/
theorem concat_any (S N c : Nat) (Ls : List (List (Option Addr))) (hN : Ls.length = N) (hN2 : N ≤ 1048576) (T : Nat) (hT : Ls.flatten.length = T) (ht1 : 1 ≤ T) (ht2 : T ≤ 1048576) (w : World)
    (hS : ∀ (k : Nat) (l : List (Option Addr)), Ls[k]? = some l → ∃ a d, w.cell? ⟨S, k, none⟩ = some (.slice (some a) l.length d) ∧ Ptrs w (some a) l) :
    Calls Try.prog 12 #[.slice (some ⟨S, 0, none⟩) N c] w (OwnBack w Ls.flatten) := by
  have HN := hid_mk hN
  have HS := hid_mk hS
  have HT := hid_mk hT
  clear hN hS hT
  go_enter Try.func12, Try.ntmps12
  go_wp2_with fail
  go_loop [3, 11] (fun z d => ∃ k : Nat, k ≤ N ∧ d = .int .i64 k ∧ z = .int .i64 (tot Ls k)) (fun _ d => N - (intOf d).toNat)
  case atStart => exact ⟨0, Nat.zero_le _, rfl, rfl⟩
  case round =>
    obtain ⟨k, hk, rfl, rfl⟩ := hrel
    have htk := tot_le Ls k T HT.out
    by_cases hlt : k < N
    · obtain ⟨l, hl⟩ := getOf HN.out hlt
      obtain ⟨a, d, hc, _⟩ := HS.out k l hl
      have HSu := hid_mk (tot_succ Ls k l hl)
      have htk1 := tot_le Ls (k + 1) T HT.out
      rw [HSu.out] at htk1
      clear hl
      go_wp2
      go_round
      case rel => exact ⟨k + 1, by omega, by go_num, by rw [HSu.out]; go_num⟩
      case measure => simp [intOf]; omega
    · have hke : tot Ls k = T := by unfold tot; rw [flat_full Ls k (by have := HN.out; omega)]; exact HT.out
      rw [hke]
      clear htk hke
      go_wp2_with fail
      refine (grow_any T ht1 ht2 w).mono ?_
      rintro e w1 ⟨v1, rfl, ho1, hb1⟩
      have HO1 := hid_mk ho1
      have HB1 := hid_mk hb1
      clear ho1 hb1
      go_wp2_with fail
      obtain ⟨t0, ht0, hz0, hz1, hz2⟩ := info_parts Try.info25
      go_loopw [6, 27] (fun v d wr => ∃ k : Nat, k ≤ N ∧ d = .int .i64 k ∧ wr.ownsRow w.heap.size 25 1 v (flat Ls k).length ((flat Ls k).map Value.pointer) ∧ Below w.heap.size w wr) (fun _ d _ => N - (intOf d).toNat)
      case atStart => exact ⟨0, Nat.zero_le _, rfl, HO1.out, HB1.out⟩
      case round =>
        obtain ⟨k, hk, rfl, ho, hb⟩ := hrel
        have HO := hid_mk ho
        have HB := hid_mk hb
        clear ho hb
        by_cases hlt : k < N
        · obtain ⟨l, hl⟩ := getOf HN.out hlt
          obtain ⟨a, d, hc, hp⟩ := HS.out k l hl
          have hcx : wr.cell? ⟨S, k, none⟩ = some (.slice (some a) l.length d) := (HB.out.cell (cell_lt hc)).trans hc
          have HP := hid_mk (ptrs_news (hp.below HB.out))
          have HFl := hid_mk (flat_succ Ls k l hl)
          have hbd : (flat Ls k).length + l.length ≤ 1048576 := by
            have h1 := tot_le Ls (k + 1) T HT.out
            rw [tot_succ Ls k l hl] at h1
            unfold tot at h1
            omega
          have hbs := HB.out.size
          clear hl hp hc
          go_wp2_with (at_builtin; refine wpList_append_own _ rfl (.tmp 31) (.tmp 32) 24 rfl w.heap.size 25 t0 (.pointer none) 1 8 Try.underlying24 ht0 hz0 hz1 hz2 rfl (by decide) _ _ _ rfl HO.out a l.length d (l.map Value.pointer) rfl (by simp) HP.out (ptr_oneCell l) (by unfold maxLen; omega) (by omega) hbs ?_)
          intro v' w2 hown' hgrow _
          have HB2 : Hid (Below w.heap.size w w2) := HB.out.grown hgrow hbs (fun k hk => (HO.out.lt k hk).1)
          have HO2 : Hid (w2.ownsRow w.heap.size 25 1 v' (flat Ls (k + 1)).length ((flat Ls (k + 1)).map Value.pointer)) := by
            unfold Hid; rw [HFl.out]; simpa using hown'
          clear hown' hgrow hcx
          go_wp2
          go_roundw
          case rel => exact ⟨k + 1, by omega, by go_num, HO2.out, HB2.out⟩
          case measure => simp [intOf]; omega
        · have HE : Hid (OwnBack w Ls.flatten (.returned u6) wr) := by
            have h := HO.out
            rw [flat_full Ls k (by have := HN.out; omega)] at h
            exact ⟨_, rfl, h, HB.out⟩
          go_wp2
          go_ret
          exact HE.out
end Go.Proofs.Qxb6630402a
