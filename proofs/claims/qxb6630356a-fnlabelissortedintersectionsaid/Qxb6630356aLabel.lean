/-
  (*Graph).Label: of two strictly increasing rows it gives their intersection, in new memory.
-/
import Derived.Test.Qxb6630356aClone
namespace Go.Proofs.Qxb6630356a
open Go.RowKit

/-- 'xs[1:]': where it begins. -/
theorem strs_tail {w : World} {b o i c : Nat} {l : List ByteArray} (h : Strs w (some ⟨b, o, none⟩) (l.drop i)) (hc : (l.drop i).length ≤ c) :
    Strs w (if c = 1 then some ⟨b, o, none⟩ else some ⟨b, o + 1, none⟩) (l.drop (i + 1)) := fun k x hx => by
  have hk : (l.drop i)[k + 1]? = some x := by rw [List.getElem?_drop] at hx ⊢; rw [← hx]; congr 1; omega
  obtain ⟨b', o', e, hcell⟩ := h (k + 1) x hk
  have hlen := lt_len hk
  obtain ⟨rfl, rfl⟩ : b = b' ∧ o = o' := by simpa using e
  rw [if_neg (by omega)]
  exact ⟨b, o + 1, rfl, by rw [Nat.add_assoc, Nat.add_comm 1 k]; exact hcell⟩

/-- A row came back: a slice that reads as l. -/
def LabBack (w : World) (l : List ByteArray) (e : Ending) (w' : World) : Prop :=
  ∃ ao' cap', e = .returned (.slice ao' l.length cap') ∧ Strs w' ao' l ∧ Below w.heap.size w w'

theorem labBack_of {w wr : World} {v : Value} {base : Nat} {acc l : List ByteArray} (hown : wr.ownsRow base 9 1 v acc.length (acc.map Value.string)) (hb : Below w.heap.size w wr) (e : acc = l) : LabBack w l (.returned v) wr := by
  subst e
  obtain ⟨_, h | ⟨g, cap, cur, rfl, _, hcells, _, _, _, htake⟩⟩ := hown
  · obtain ⟨rfl, h0⟩ := h
    have : acc = [] := List.eq_nil_of_length_eq_zero h0
    subst this
    exact ⟨none, 0, rfl, Strs.nil _ _, hb⟩
  · refine ⟨_, cap, rfl, fun i x hx => ⟨g, 0, rfl, ?_⟩, hb⟩
    have hi := lt_len hx
    rw [Nat.mul_one] at htake
    have h1 : (acc.map Value.string)[i]? = some (.string x) := by rw [List.getElem?_map, hx]; rfl
    rw [← htake, List.getElem?_take_of_lt hi] at h1
    rw [Nat.zero_add]
    simp only [World.cell?, hcells]
    simpa using h1

def lenOf : Value → Nat | .slice _ n _ => n | _ => 0

set_option maxHeartbeats 2000000 in
theorem label_any (G : Nat) (ao : Option Addr) (N cap : Nat) (rows : List (List ByteArray)) (ia ib : Nat) (la lb : List ByteArray) (hN : rows.length = N) (hra : rows[ia]? = some la) (hrb : rows[ib]? = some lb)
    (hna : la.length ≤ 1048576) (hnb : lb.length ≤ 1048576) (hia : Inc la) (hib : Inc lb) (w : World) (hg : w.cell? ⟨G, 1, none⟩ = some (.slice ao N cap)) (hm : Mat w ao rows) :
    Calls Try.prog 10 #[.pointer (some ⟨G, 0, none⟩), .int .i64 ia, .int .i64 ib] w (LabBack w (inter la lb)) := by
  obtain ⟨b, o, aa, ca, e1, hca, hac, hsa⟩ := hm ia la hra
  obtain ⟨b', o', ab, cb, e2, hcb, hbc, hsb⟩ := hm ib lb hrb
  subst e1
  obtain ⟨rfl, rfl⟩ : b = b' ∧ o = o' := by simpa using e2
  have i1 : (ia : Int) < (N : Int) := by have := (List.getElem?_eq_some_iff.1 hra).1; omega
  have i2 : (ib : Int) < (N : Int) := by have := (List.getElem?_eq_some_iff.1 hrb).1; omega
  have i3 : (0 : Int) ≤ (ia : Int) := by omega
  have i4 : (0 : Int) ≤ (ib : Int) := by omega
  obtain ⟨na, hla⟩ : ∃ na, la.length = na := ⟨_, rfl⟩
  obtain ⟨nb, hlb⟩ : ∃ nb, lb.length = nb := ⟨_, rfl⟩
  rw [hla] at hca hna hac
  rw [hlb] at hcb hnb hbc
  have HLA := hid_mk hla
  have HLB := hid_mk hlb
  have HSA := hid_mk hsa
  have HSB := hid_mk hsb
  have HIA := hid_mk hia
  have HIB := hid_mk hib
  clear hm hra hrb hN e2 hla hlb hsa hsb hia hib
  go_enter Try.func10, Try.ntmps10
  go_wp2_with fail
  go_quiet (fail)
  go_wp2_with fail
  clear hca hcb hg
  go_loopw [7, 8, 9] (fun v p q wr => ∃ (i j r s : Nat) (acc : List ByteArray) (A B : Option Addr) (c d : Nat), p = .slice A r c ∧ q = .slice B s d ∧ r ≤ c ∧ s ≤ d ∧ i + r = na ∧ j + s = nb ∧ Strs w A (la.drop i) ∧ Strs w B (lb.drop j)
      ∧ wr.ownsRow w.heap.size 9 1 v acc.length (acc.map Value.string) ∧ Merged la lb i j acc ∧ Below w.heap.size w wr) (fun _ p q _ => lenOf p + lenOf q)
  case atStart => exact ⟨0, 0, na, nb, [], aa, ab, ca, cb, rfl, rfl, hac, hbc, by omega, by omega, HSA.out, HSB.out, World.ownsRow_nil _ _ _ _, merged_start _ _, below_drewN' (Below.refl _ _) _⟩
  case round =>
    obtain ⟨i, j, r, s, acc, A, B, c, d, rfl, rfl, hrc, hsd, hir, hjs, hA, hB, hown, hmg, hb⟩ := hrel
    have HIR := hid_mk hir
    have HJS := hid_mk hjs
    have HA := hid_mk hA
    have HB := hid_mk hB
    have HO := hid_mk hown
    have HM := hid_mk hmg
    have HBe := hid_mk hb
    have hrb : r ≤ 1048576 := by omega
    have hsb : s ≤ 1048576 := by omega
    clear hir hjs hA hB hown hmg hb
    by_cases hr : 0 < r
    · by_cases hs : 0 < s
      · obtain ⟨x, hx⟩ : ∃ x, la[i]? = some x := getOf HLA.out (by have := HIR.out; omega)
        obtain ⟨y, hy⟩ : ∃ y, lb[j]? = some y := getOf HLB.out (by have := HJS.out; omega)
        obtain ⟨b1, o1, e1, hc1⟩ := HA.out 0 x (by simpa using hx)
        obtain ⟨b2, o2, e2, hc2⟩ := HB.out 0 y (by simpa using hy)
        subst e1 e2
        have hw1 : wr.cell? ⟨b1, o1, none⟩ = some (.string x) := (HBe.out.cell (cell_lt hc1)).trans hc1
        have hw2 : wr.cell? ⟨b2, o2, none⟩ = some (.string y) := (HBe.out.cell (cell_lt hc2)).trans hc2
        have i1 : (0 : Int) < (r : Int) := by omega
        have i2 : (0 : Int) < (s : Int) := by omega
        have HX := hid_mk hx
        have HY := hid_mk hy
        clear hx hy hc1 hc2
        have hda : (la.drop i).length ≤ c := by rw [List.length_drop]; have := HIR.out; have := HLA.out; omega
        have hdb : (lb.drop j).length ≤ d := by rw [List.length_drop]; have := HJS.out; have := HLB.out; omega
        have HTA := hid_mk (strs_tail HA.out hda)
        have HTB := hid_mk (strs_tail HB.out hdb)
        clear hda hdb
        cases hlt : Op.bytesLess x.toList y.toList with
        | true =>
          have HN := hid_mk (merged_lt HIB.out HM.out HX.out HY.out hlt)
          go_wp2_with fail
          go_quiet (fail)
          go_wp2_with fail
          go_roundw
          case rel => exact ⟨i + 1, j, r - 1, s, acc, _, _, _, _, rfl, rfl, by omega, hsd, by have := HIR.out; omega, HJS.out, HTA.out, HB.out, HO.out, HN.out, below_drewN' HBe.out _⟩
          case measure => simp only [lenOf]; omega
        | false =>
          cases heq : (x.toList == y.toList) with
          | false =>
            have hgt : lt y x = true := by
              rcases lt_total x y with h | h | h
              · have : lt x y = false := hlt
                rw [this] at h; cases h
              · subst h; simp at heq
              · exact h
            have HN := hid_mk (merged_gt HIA.out HM.out HX.out HY.out hgt)
            clear hgt
            go_wp2_with fail
            go_quiet (fail)
            go_wp2_with fail
            go_quiet (fail)
            go_wp2_with fail
            go_roundw
            case rel => exact ⟨i, j + 1, r, s - 1, acc, _, _, _, _, rfl, rfl, hrc, by omega, HIR.out, by have := HJS.out; omega, HA.out, HTB.out, HO.out, HN.out, below_drewN' HBe.out _⟩
            case measure => simp only [lenOf]; omega
          | true =>
            have hxy : x = y := bytes_eq (by simpa using heq)
            have HN : Hid (Merged la lb (i + 1) (j + 1) (acc ++ [x])) := by
              have hy := HY.out
              rw [← hxy] at hy
              exact merged_eq HIA.out HM.out HX.out hy
            clear hxy
            go_wp2_with fail
            go_quiet (fail)
            go_wp2_with fail
            go_quiet (fail)
            have HOD : Hid (∀ q o, ((wr.drewN q).alloc o).ownsRow w.heap.size 9 1 u7 acc.length (acc.map Value.string)) := fun q o => World.ownsRow.alloc (w := wr.drewN q) HO.out o
            have hal : acc.length ≤ 1048576 := by have := merged_len HM.out; have := HIR.out; omega
            have j1 : (1 : Int) ≤ (r : Int) := by omega
            have j2 : (1 : Int) ≤ (s : Int) := by omega
            have hbs := HBe.out.size
            obtain ⟨t0, ht0, hz0, hz1, hz2⟩ := info_parts Try.info9
            go_wp2_with (at_builtin; refine wpList_append_own _ rfl (.tmp 32) (.tmp 36) 26 rfl w.heap.size 9 t0 (.string ByteArray.empty) 1 16 Try.underlying26 ht0 hz0 hz1 hz2 rfl (by decide) _ _ _ rfl (HOD.out _ _) ⟨wr.heap.size, 0, none⟩ 1 1 [.string x] rfl rfl ?c1 ?c2 ?c3 ?c4 ?c5 ?_)
            case c1 => exact cell_one_new _ _ _
            case c2 => intro u hu; simp at hu; subst hu; rfl
            case c3 => unfold maxLen; omega
            case c4 => omega
            case c5 => simp; omega
            intro v' w1 hown' hgrow _
            have HB1 : Hid (Below w.heap.size w w1) := ((below_drewN' HBe.out _).alloc hbs _).grown hgrow (by simp; omega) (fun k hk => (HO.out.lt k hk).1)
            have HO1 : Hid (w1.ownsRow w.heap.size 9 1 v' (acc ++ [x]).length ((acc ++ [x]).map Value.string)) := by unfold Hid; simpa using hown'
            clear hown' hgrow ht0 hz0 hz1 hz2 hw1 hw2
            go_wp2_with fail
            go_quiet (fail)
            go_wp2_with fail
            go_roundw
            case rel => exact ⟨i + 1, j + 1, r - 1, s - 1, acc ++ [x], _, _, _, _, rfl, rfl, by omega, by omega, by have := HIR.out; omega, by have := HJS.out; omega, HTA.out, HTB.out, HO1.out, HN.out, below_drewN' HB1.out _⟩
            case measure => simp only [lenOf]; omega
      · have HE : Hid (LabBack w (inter la lb) (.returned u7) wr) := labBack_of HO.out HBe.out (merged_end HM.out (.inr (by have := HJS.out; have := HLB.out; omega)))
        go_wp2
        go_ret
        exact HE.out
    · have HE : Hid (LabBack w (inter la lb) (.returned u7) wr) := labBack_of HO.out HBe.out (merged_end HM.out (.inl (by have := HIR.out; have := HLA.out; omega)))
      go_wp2
      go_ret
      exact HE.out
end Go.Proofs.Qxb6630356a
