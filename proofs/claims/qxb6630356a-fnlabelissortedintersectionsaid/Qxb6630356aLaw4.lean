/-
  THE WALK OF FnLabelSymmetricDiagonalAbsorbing: it returns true, whatever the input.
-/
import Derived.Test.Qxb6630356aLabel
import Derived.ArgAppend
namespace Go.Proofs.Qxb6630356a
open Go.RowKit

theorem ext {a b c : World} (h : Below a.heap.size a b) (k : Below b.heap.size b c) : Below a.heap.size a c := h.trans (k.mono h.size)

/-- A new graph came back. -/
def GraphBack (w : World) (v : Value) (e : Ending) (w' : World) : Prop :=
  ∃ G, e = .returned (.pointer (some ⟨G, 0, none⟩)) ∧ w'.cell? ⟨G, 1, none⟩ = some v ∧ Below w.heap.size w w'

theorem newg_any (ao : Option Addr) (n cap : Nat) (w : World) : Calls Try.prog 9 #[.slice ao n cap] w (GraphBack w (.slice ao n cap)) := by
  go_enter Try.func9, Try.ntmps9
  go_wp2
  go_ret
  exact ⟨_, rfl, by simp, (Below.refl _ _).alloc (Nat.le_refl _) _⟩

theorem addp (b o j : Nat) : (⟨b, o, none⟩ : Addr).add j = ⟨b, o + j, none⟩ := by unfold Addr.add; split <;> simp_all

/-- The cells of the rows, as a list. -/
theorem mat_cells {w : World} {ao : Option Addr} {rows : List (List ByteArray)} (h : Mat w ao rows) :
    ∃ olds : List Value, olds.length = rows.length * 1 ∧ (∀ b, ao = some b → ∀ j u, olds[j]? = some u → w.cell? (b.add j) = some u) ∧
      ∀ (r : Nat) (l : List ByteArray), rows[r]? = some l → ∃ a c, olds[r]? = some (.slice a l.length c) ∧ l.length ≤ c ∧ Strs w a l := by
  cases ao with
  | none =>
    have h0 : rows = [] := by
      cases rows with
      | nil => rfl
      | cons x t => obtain ⟨b, o, _, _, e, _⟩ := h 0 x rfl; cases e
    subst h0
    exact ⟨[], rfl, (fun b e => by cases e), fun r l e => by simp at e⟩
  | some ad =>
    refine ⟨(List.range rows.length).map fun r => (w.cell? (ad.add r)).getD (.slice none 0 0), by simp, fun b e j u hu => ?_, fun r l hl => ?_⟩
    · obtain rfl : ad = b := by simpa using e
      have hj : j < rows.length := by have := (List.getElem?_eq_some_iff.1 hu).1; simpa using this
      simp [List.getElem?_map, List.getElem?_range hj] at hu
      obtain ⟨b', o', a', c', e', hc, _⟩ := h j _ (List.getElem?_eq_getElem hj)
      obtain rfl : ad = ⟨b', o', none⟩ := by simpa using e'
      have hc' : w.cell? ((⟨b', o', none⟩ : Addr).add j) = _ := (congrArg w.cell? (addp b' o' j)).trans hc
      rw [hc'] at hu ⊢
      simpa using hu
    · have hr := (List.getElem?_eq_some_iff.1 hl).1
      obtain ⟨b', o', a', c', e', hc, hlc, hs⟩ := h r l hl
      obtain rfl : ad = ⟨b', o', none⟩ := by simpa using e'
      have hc' : w.cell? ((⟨b', o', none⟩ : Addr).add r) = _ := (congrArg w.cell? (addp b' o' r)).trans hc
      exact ⟨a', c', by simp [List.getElem?_map, List.getElem?_range hr, hc'], hlc, hs⟩

/-- A row of slices that the call owns, read as rows. -/
theorem mat_of_owns {w : World} {base k : Nat} {v : Value} {xs : List Value} {rows : List (List ByteArray)} (hown : w.ownsRow base 26 1 v (k + 1) xs) (hk : rows.length = k + 1)
    (hx : ∀ (r : Nat) (l : List ByteArray), rows[r]? = some l → ∃ a c, xs[r]? = some (.slice a l.length c) ∧ l.length ≤ c ∧ Strs w a l) : ∃ ao cap, v = .slice ao (k + 1) cap ∧ Mat w ao rows := by
  obtain ⟨_, h | ⟨g, cap, cur, rfl, _, hcells, _, _, _, htake⟩⟩ := hown
  · exact absurd h.2 (by omega)
  · refine ⟨_, cap, rfl, fun r l hl => ?_⟩
    obtain ⟨a, c, h1, h2, h3⟩ := hx r l hl
    have hr := (List.getElem?_eq_some_iff.1 hl).1
    refine ⟨g, 0, a, c, rfl, ?_, h2, h3⟩
    rw [Nat.mul_one] at htake
    rw [← htake, List.getElem?_take_of_lt (by omega)] at h1
    rw [Nat.zero_add]
    simp only [World.cell?, hcells]
    simpa using h1

/-- What the walk is told of a [][]string that came in. -/
def IsMat (w : World) (ao : Option Addr) (n : Nat) (rows : List (List ByteArray)) : Prop :=
  rows.length = n ∧ n ≤ maxLen ∧ (∀ (r : Nat) (l : List ByteArray), rows[r]? = some l → l.length ≤ maxLen) ∧ Mat w ao rows

set_option maxHeartbeats 4000000 in
theorem law4 (ao : Option Addr) (n cap : Nat) (a b : Int) (rows : List (List ByteArray)) (w : World) (h : IsMat w ao n rows) :
    Calls Try.prog 4 #[.slice ao n cap, .int .i64 a, .int .i64 b] w fun e w' => e = .returned (.bool true) ∧ Below w.heap.size w w' := by
  have H := hid_mk h
  clear h
  go_enter Try.func4, Try.ntmps4
  go_wp2_with fail
  refine (bytes13_any ao n cap a b rows H.out.1 H.out.2.1 H.out.2.2.1 _ H.out.2.2.2).mono ?_
  rintro e w' ⟨⟨bb, rfl⟩, hw⟩
  subst w'
  cases bb with
  | false =>
    go_wp2
    go_ret
    exact ⟨rfl, Below.refl _ _⟩
  | true =>
    by_cases hn : n ≤ 65536
    case neg =>
      go_wp2
      go_ret
      exact ⟨rfl, Below.refl _ _⟩
    case pos =>
      go_wp2_with fail
      refine (big_any ao n cap rows H.out.1 H.out.2.1 H.out.2.2.1 _ H.out.2.2.2).mono ?_
      rintro e w' ⟨hbig, hw⟩
      subst w'
      rcases hbig with rfl | ⟨rfl, HBD⟩
      · go_wp2
        go_ret
        exact ⟨rfl, Below.refl _ _⟩
      · by_cases hab : (0 ≤ a ∧ a < n) ∧ (0 ≤ b ∧ b < n)
        case neg =>
          by_cases h1 : a < 0
          · go_wp2
            go_ret
            exact ⟨rfl, Below.refl _ _⟩
          · by_cases h2 : (n : Int) ≤ a
            · go_wp2
              go_ret
              exact ⟨rfl, Below.refl _ _⟩
            · by_cases h3 : b < 0
              · go_wp2
                go_ret
                exact ⟨rfl, Below.refl _ _⟩
              · have h4 : (n : Int) ≤ b := by omega
                clear hab
                go_wp2
                go_ret
                exact ⟨rfl, Below.refl _ _⟩
        case pos =>
          obtain ⟨⟨ha0, ha1⟩, hb0, hb1⟩ := hab
          obtain ⟨ia, rfl⟩ : ∃ i : Nat, a = (i : Int) := ⟨a.toNat, by omega⟩
          obtain ⟨ib, rfl⟩ : ∃ i : Nat, b = (i : Int) := ⟨b.toNat, by omega⟩
          obtain ⟨la, hra⟩ := rowOf H.out.1 (show ia < n by omega)
          obtain ⟨lb, hrb⟩ := rowOf H.out.1 (show ib < n by omega)
          have HRA := hid_mk hra
          have HRB := hid_mk hrb
          obtain ⟨bk, ok, aa, ca, e1, hca, _, hsa⟩ := H.out.2.2.2 ia la hra
          obtain ⟨bk', ok', ab, cb, e2, hcb, _, hsb⟩ := H.out.2.2.2 ib lb hrb
          subst e1
          obtain ⟨rfl, rfl⟩ : bk = bk' ∧ ok = ok' := by simpa using e2
          obtain ⟨na, hla⟩ : ∃ na, la.length = na := ⟨_, rfl⟩
          obtain ⟨nb, hlb⟩ : ∃ nb, lb.length = nb := ⟨_, rfl⟩
          have hna := HBD.out ia la hra
          have hnb := HBD.out ib lb hrb
          rw [hla] at hca hna
          rw [hlb] at hcb hnb
          have HLA := hid_mk hla
          have HLB := hid_mk hlb
          have HSA := hid_mk hsa
          have HSB := hid_mk hsb
          clear hra hrb e2 hla hlb hsa hsb
          go_wp2_with fail
          refine (inc_any aa na ca la HLA.out hna _ HSA.out).mono ?_
          rintro e w' ⟨b1, rfl, hi1, m1, hw⟩
          subst w'
          cases b1 with
          | false =>
            clear hi1
            go_wp2
            go_ret
            exact ⟨rfl, below_drewN' (Below.refl _ _) _⟩
          | true =>
            have HIA := hid_mk (hi1 rfl)
            clear hi1
            go_wp2_with fail
            refine (inc_any ab nb cb lb HLB.out hnb _ (by exact HSB.out.drewN _)).mono ?_
            rintro e w' ⟨b2, rfl, hi2, m2, hw⟩
            subst w'
            cases b2 with
            | false =>
              clear hi2
              go_wp2
              go_ret
              exact ⟨rfl, below_drewN' (Below.refl _ _) _⟩
            | true =>
              have HIB := hid_mk (hi2 rfl)
              clear hi2
              have HM0 := hid_mk H.out.2.2.2
              have HN := hid_mk H.out.1
              clear H HSA HSB hca hcb
              go_wp2_with fail
              refine (crows_any _ n cap rows HN.out hn HBD.out _ (by exact HM0.out.drewN _)).mono ?_
              rintro e w1 ⟨ao1, rfl, hm1, _, hb1⟩
              have B1 : Hid (Below w.heap.size w w1) := ext (below_drewN' (Below.refl _ w) _) hb1
              have M1 := hid_mk hm1
              clear hm1 hb1 HM0
              go_wp2_with fail
              refine (crows_any ao1 n n rows HN.out hn HBD.out w1 M1.out).mono ?_
              rintro e w2 ⟨ao2, rfl, hm2, _, hb2⟩
              have B2 := hid_mk (ext B1.out hb2)
              have B12 := hid_mk hb2
              have M2 := hid_mk hm2
              clear hm2 hb2
              go_wp2_with fail
              refine (newg_any ao2 n n w2).mono ?_
              rintro e w3 ⟨G, rfl, hG, hb3⟩
              have B3 := hid_mk (ext B2.out hb3)
              have B13 := hid_mk (ext B12.out hb3)
              have M3 := hid_mk (M2.out.below hb3)
              have HG := hid_mk hG
              clear hG hb3
              go_wp2_with fail
              refine (label_any G ao2 n n rows ia ib la lb HN.out HRA.out HRB.out (by rw [HLA.out]; exact hna) (by rw [HLB.out]; exact hnb) HIA.out HIB.out w3 HG.out M3.out).mono ?_
              rintro e w4 ⟨aab, cab, rfl, hs4, hb4⟩
              have B4 := hid_mk (ext B3.out hb4)
              have B14 := hid_mk (ext B13.out hb4)
              have M4 := hid_mk (M3.out.below hb4)
              have HG4 : Hid (w4.cell? ⟨G, 1, none⟩ = some (.slice ao2 n n)) := (hb4.cell (cell_lt HG.out)).trans HG.out
              have S4 := hid_mk hs4
              clear hs4 hb4
              go_wp2_with fail
              refine (label_any G ao2 n n rows ib ia lb la HN.out HRB.out HRA.out (by rw [HLB.out]; exact hnb) (by rw [HLA.out]; exact hna) HIB.out HIA.out w4 HG4.out M4.out).mono ?_
              rintro e w5 ⟨aba, cba, rfl, hs5, hb5⟩
              have B5 := hid_mk (ext B4.out hb5)
              have B15 := hid_mk (ext B14.out hb5)
              have B45 := hid_mk hb5
              have M5 := hid_mk (M4.out.below hb5)
              have HG5 : Hid (w5.cell? ⟨G, 1, none⟩ = some (.slice ao2 n n)) := (hb5.cell (cell_lt HG4.out)).trans HG4.out
              have S5 := hid_mk hs5
              clear hs5 hb5
              go_wp2_with fail
              refine (label_any G ao2 n n rows ia ia la la HN.out HRA.out HRA.out (by rw [HLA.out]; exact hna) (by rw [HLA.out]; exact hna) HIA.out HIA.out w5 HG5.out M5.out).mono ?_
              rintro e w6 ⟨aaa, caa, rfl, hs6, hb6⟩
              have B6 := hid_mk (ext B5.out hb6)
              have B16 := hid_mk (ext B15.out hb6)
              have B46 := hid_mk (ext B45.out hb6)
              have B56 := hid_mk hb6
              have S6 := hid_mk hs6
              clear hs6 hb6
              go_wp2_with fail
              refine (crows_any ao1 n n rows HN.out hn HBD.out w6 (M1.out.below B16.out)).mono ?_
              rintro e w7 ⟨ao3, rfl, hm7, hno, hb7⟩
              have B7 := hid_mk (ext B6.out hb7)
              have B17 := hid_mk (ext B16.out hb7)
              have B47 := hid_mk (ext B46.out hb7)
              have B57 := hid_mk (ext B56.out hb7)
              have B67 := hid_mk hb7
              have M7 := hid_mk hm7
              have HNO := hid_mk hno
              clear hm7 hb7 hno
              obtain ⟨m, hm⟩ : ∃ m, (inter la lb).length = m := ⟨_, rfl⟩
              have hmb : m ≤ 1048576 := by have := inter_length la lb; have := HLA.out; omega
              have HMM := hid_mk hm
              rw [hm]
              clear hm
              go_wp2_with fail
              refine (crow_any aab m cab (inter la lb) HMM.out hmb w7 (S4.out.below B47.out)).mono ?_
              rintro e w8 ⟨ao4, rfl, hs8, _, hb8⟩
              have B8 := hid_mk (ext B7.out hb8)
              have B18 := hid_mk (ext B17.out hb8)
              have B48 := hid_mk (ext B47.out hb8)
              have B58 := hid_mk (ext B57.out hb8)
              have B68 := hid_mk (ext B67.out hb8)
              have M8 := hid_mk (M7.out.below hb8)
              have S8 := hid_mk hs8
              clear hs8 hb8
              obtain ⟨olds, ho1, ho2, ho3⟩ := mat_cells (w := w8) M8.out
              have HO1 : Hid (olds.length = n * 1) := by unfold Hid; rw [ho1, HN.out]
              have HO2 : Hid (∀ o, ∀ b, ao3 = some b → ∀ j u, olds[j]? = some u → (w8.alloc o).cell? (b.add j) = some u) := fun o b e j u hu => by
                have h := ho2 b e j u hu
                have hl := cell_lt h
                exact (((Below.refl w8.heap.size w8).alloc (Nat.le_refl _) o).cell hl).trans h
              have HO3 := hid_mk ho3
              have HN0 : Hid (ao3 = none → n = 0 ∧ n = 0) := fun h => ⟨HNO.out h, HNO.out h⟩
              clear ho1 ho2 ho3
              obtain ⟨t0, ht0, hz0, hz1, hz2⟩ := info_parts Try.info26
              go_wp2_with (at_builtin; refine wpList_append_grows _ rfl (.tmp 77) (.tmp 80) 22 rfl 26 t0 (.slice none 0 0) 1 24 Try.underlying22 ht0 hz0 hz1 hz2 rfl (by decide) ao3 n n olds rfl HN0.out HO1.out (HO2.out _) ⟨w8.heap.size, 0, none⟩ 1 1 [.slice ao4 m m] rfl rfl ?c1 ?c2 ?c3 ?c4 ?c5 ?_)
              case c1 => exact cell_one_new _ _ _
              case c2 => intro u hu; simp at hu; subst hu; rfl
              case c3 => omega
              case c4 => unfold maxLen; omega
              case c5 => omega
              intro v9 w9 hown9 hgrow9
              have HB89 : Hid (Below w8.heap.size w8 w9) := ((Below.refl w8.heap.size w8).alloc (Nat.le_refl _) _).grown hgrow9 (by simp) (fun k hk => by cases hk)
              have HNN : Hid ((rows ++ [inter la lb]).length = n + 1) := by unfold Hid; rw [List.length_append, HN.out]; rfl
              obtain ⟨ao5, cap5, hv9, hm9⟩ := mat_of_owns hown9 HNN.out (fun r l hl => by
                by_cases hr : r < rows.length
                · rw [List.getElem?_append_left hr] at hl
                  obtain ⟨a, c, q1, q2, q3⟩ := HO3.out r l hl
                  exact ⟨a, c, by rw [List.getElem?_append_left (by have := HO1.out; have := HN.out; omega)]; exact q1, q2, q3.below HB89.out⟩
                · have hr2 := (List.getElem?_eq_some_iff.1 hl).1
                  have hre : r = rows.length := by rw [List.length_append] at hr2; simp at hr2; omega
                  subst hre
                  simp at hl
                  subst hl
                  have ho : olds.length = rows.length := by have := HO1.out; have := HN.out; omega
                  exact ⟨ao4, m, by rw [← ho]; simp [HMM.out], Nat.le_of_eq HMM.out, S8.out.below HB89.out⟩)
              subst hv9
              have M9 := hid_mk hm9
              have B9 := hid_mk (ext B8.out HB89.out)
              have B19 := hid_mk (ext B18.out HB89.out)
              have B49 := hid_mk (ext B48.out HB89.out)
              have B59 := hid_mk (ext B58.out HB89.out)
              have B69 := hid_mk (ext B68.out HB89.out)
              clear hown9 hgrow9 hm9 HB89 ht0 hz0 hz1 hz2 HO1 HO2 HO3 HN0
              have HRA' : Hid ((rows ++ [inter la lb])[ia]? = some la) := by
                unfold Hid
                rw [List.getElem?_append_left (by have := HN.out; omega)]; exact HRA.out
              have HRB' : Hid ((rows ++ [inter la lb])[ib]? = some lb) := by
                unfold Hid
                rw [List.getElem?_append_left (by have := HN.out; omega)]; exact HRB.out
              have HRC' : Hid ((rows ++ [inter la lb])[n]? = some (inter la lb)) := by
                unfold Hid
                rw [← HN.out]; simp
              go_wp2_with fail
              refine (newg_any ao5 (n + 1) cap5 w9).mono ?_
              rintro e w10 ⟨G2, rfl, hG, hb10⟩
              have B10 := hid_mk (ext B9.out hb10)
              have B1x := hid_mk (ext B19.out hb10)
              have B4x := hid_mk (ext B49.out hb10)
              have B5x := hid_mk (ext B59.out hb10)
              have B6x := hid_mk (ext B69.out hb10)
              have M10 := hid_mk (M9.out.below hb10)
              have HG2 := hid_mk hG
              clear hG hb10
              go_wp2_with fail
              refine (label_any G2 ao5 (n + 1) cap5 (rows ++ [inter la lb]) ia n la (inter la lb) HNN.out HRA'.out HRC'.out (by rw [HLA.out]; exact hna) (by rw [HMM.out]; exact hmb) HIA.out (inc_inter HIA.out) w10 HG2.out M10.out).mono ?_
              rintro e w11 ⟨aac, cac, rfl, hs11, hb11⟩
              have B11 := hid_mk (ext B10.out hb11)
              have B1y := hid_mk (ext B1x.out hb11)
              have B4y := hid_mk (ext B4x.out hb11)
              have B5y := hid_mk (ext B5x.out hb11)
              have B6y := hid_mk (ext B6x.out hb11)
              have M11 := hid_mk (M10.out.below hb11)
              have HG3 : Hid (w11.cell? ⟨G2, 1, none⟩ = some (.slice ao5 (n + 1) cap5)) := (hb11.cell (cell_lt HG2.out)).trans HG2.out
              rw [inter_absorb_left] at hs11
              rw [inter_absorb_left, HMM.out]
              have S11 := hid_mk hs11
              clear hs11 hb11
              go_wp2_with fail
              refine (label_any G2 ao5 (n + 1) cap5 (rows ++ [inter la lb]) n ib (inter la lb) lb HNN.out HRC'.out HRB'.out (by rw [HMM.out]; exact hmb) (by rw [HLB.out]; exact hnb) (inc_inter HIA.out) HIB.out w11 HG3.out M11.out).mono ?_
              rintro e w12 ⟨acb, ccb, rfl, hs12, hb12⟩
              have B12' := hid_mk (ext B11.out hb12)
              have B1z := hid_mk (ext B1y.out hb12)
              rw [inter_absorb_right] at hs12
              rw [inter_absorb_right, HMM.out]
              have S12 := hid_mk hs12
              have T11 := hid_mk (S11.out.below hb12)
              have T4 := hid_mk (S4.out.below (ext B4y.out hb12))
              have T5 := hid_mk (S5.out.below (ext B5y.out hb12))
              have T6 := hid_mk (S6.out.below (ext B6y.out hb12))
              clear hs12 hb12
              obtain ⟨bq, oq, a1, c1, eq1, hcq, _, hsq⟩ := (M1.out.below B1z.out) ia la HRA.out
              subst eq1
              rw [HLA.out] at hcq
              have SQ := hid_mk hsq
              clear hsq
              have E1 : Hid (la.length = (inter la la).length) := by unfold Hid; rw [inter_self]
              have E2 : Hid ((inter la lb).length = (inter lb la).length) := by unfold Hid; rw [inter_comm HIA.out HIB.out]
              have T6' : Hid (Strs w12 aaa la) := by have := T6.out; rwa [inter_self] at this
              have T5' : Hid (Strs w12 aba (inter la lb)) := by have := T5.out; rwa [← inter_comm HIA.out HIB.out] at this
              have hz1 : (inter la la).length ≤ 1048576 := by rw [inter_self, HLA.out]; exact hna
              go_wp2_with fail
              refine (same_any aaa _ (inter la la).length na caa c1 la E1.out HLA.out hz1 w12 T6'.out SQ.out).mono ?_
              rintro e w' ⟨rfl, q1, hw⟩
              subst w'
              go_wp2_with fail
              refine (same_any aab aba m (inter lb la).length cab cba (inter la lb) HMM.out E2.out hmb _ (by exact T4.out.drewN _) (by exact T5'.out.drewN _)).mono ?_
              rintro e w' ⟨rfl, q2, hw⟩
              subst w'
              go_wp2_with fail
              refine (same_any aac aab m m cac cab (inter la lb) HMM.out HMM.out hmb _ (by exact T11.out.drewN _) (by exact T4.out.drewN _)).mono ?_
              rintro e w' ⟨rfl, q3, hw⟩
              subst w'
              go_wp2_with fail
              refine (same_any acb aab m m ccb cab (inter la lb) HMM.out HMM.out hmb _ (by exact S12.out.drewN _) (by exact T4.out.drewN _)).mono ?_
              rintro e w' ⟨rfl, q4, hw⟩
              subst w'
              go_wp2
              go_ret
              exact ⟨rfl, below_drewN' B12'.out _⟩
end Go.Proofs.Qxb6630356a
