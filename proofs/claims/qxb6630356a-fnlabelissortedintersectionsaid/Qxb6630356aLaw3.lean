/-
  THE WALK OF FnLabelIsSortedIntersection: it returns true, whatever the input.
-/
import Derived.Test.Qxb6630356aLaw4
namespace Go.Proofs.Qxb6630356a
open Go.RowKit

set_option maxHeartbeats 4000000 in
theorem law3 (ao : Option Addr) (n cap : Nat) (a b : Int) (rows : List (List ByteArray)) (w : World) (h : IsMat w ao n rows) :
    Calls Try.prog 3 #[.slice ao n cap, .int .i64 a, .int .i64 b] w fun e w' => e = .returned (.bool true) ∧ Below w.heap.size w w' := by
  have H := hid_mk h
  clear h
  go_enter Try.func3, Try.ntmps3
  go_wp2_with fail
  refine (bytes5_any ao n cap a b rows H.out.1 H.out.2.1 H.out.2.2.1 _ H.out.2.2.2).mono ?_
  rintro e w' ⟨⟨bb, rfl⟩, hw⟩
  subst w'
  cases bb with
  | false =>
    go_wp2
    go_ret
    exact ⟨rfl, Below.refl _ _⟩
  | true =>
    by_cases hn : n ≤ 65536
    case neg =>
      go_wp2
      go_ret
      exact ⟨rfl, Below.refl _ _⟩
    case pos =>
      go_wp2_with fail
      refine (big_any ao n cap rows H.out.1 H.out.2.1 H.out.2.2.1 _ H.out.2.2.2).mono ?_
      rintro e w' ⟨hbig, hw⟩
      subst w'
      rcases hbig with rfl | ⟨rfl, HBD⟩
      · go_wp2
        go_ret
        exact ⟨rfl, Below.refl _ _⟩
      · by_cases hab : (0 ≤ a ∧ a < n) ∧ (0 ≤ b ∧ b < n)
        case neg =>
          by_cases h1 : a < 0
          · go_wp2
            go_ret
            exact ⟨rfl, Below.refl _ _⟩
          · by_cases h2 : (n : Int) ≤ a
            · go_wp2
              go_ret
              exact ⟨rfl, Below.refl _ _⟩
            · by_cases h3 : b < 0
              · go_wp2
                go_ret
                exact ⟨rfl, Below.refl _ _⟩
              · have h4 : (n : Int) ≤ b := by omega
                clear hab
                go_wp2
                go_ret
                exact ⟨rfl, Below.refl _ _⟩
        case pos =>
          obtain ⟨⟨ha0, ha1⟩, hb0, hb1⟩ := hab
          obtain ⟨ia, rfl⟩ : ∃ i : Nat, a = (i : Int) := ⟨a.toNat, by omega⟩
          obtain ⟨ib, rfl⟩ : ∃ i : Nat, b = (i : Int) := ⟨b.toNat, by omega⟩
          obtain ⟨la, hra⟩ := rowOf H.out.1 (show ia < n by omega)
          obtain ⟨lb, hrb⟩ := rowOf H.out.1 (show ib < n by omega)
          have HRA := hid_mk hra
          have HRB := hid_mk hrb
          obtain ⟨bk, ok, aa, ca, e1, hca, _, hsa⟩ := H.out.2.2.2 ia la hra
          obtain ⟨bk', ok', ab, cb, e2, hcb, _, hsb⟩ := H.out.2.2.2 ib lb hrb
          subst e1
          obtain ⟨rfl, rfl⟩ : bk = bk' ∧ ok = ok' := by simpa using e2
          obtain ⟨na, hla⟩ : ∃ na, la.length = na := ⟨_, rfl⟩
          obtain ⟨nb, hlb⟩ : ∃ nb, lb.length = nb := ⟨_, rfl⟩
          have hna := HBD.out ia la hra
          have hnb := HBD.out ib lb hrb
          rw [hla] at hca hna
          rw [hlb] at hcb hnb
          have HLA := hid_mk hla
          have HLB := hid_mk hlb
          have HSA := hid_mk hsa
          have HSB := hid_mk hsb
          clear hra hrb e2 hla hlb hsa hsb
          go_wp2_with fail
          refine (inc_any aa na ca la HLA.out hna _ HSA.out).mono ?_
          rintro e w' ⟨b1, rfl, hi1, m1, hw⟩
          subst w'
          cases b1 with
          | false =>
            clear hi1
            go_wp2
            go_ret
            exact ⟨rfl, below_drewN' (Below.refl _ _) _⟩
          | true =>
            have HIA := hid_mk (hi1 rfl)
            clear hi1
            go_wp2_with fail
            refine (inc_any ab nb cb lb HLB.out hnb _ (by exact HSB.out.drewN _)).mono ?_
            rintro e w' ⟨b2, rfl, hi2, m2, hw⟩
            subst w'
            cases b2 with
            | false =>
              clear hi2
              go_wp2
              go_ret
              exact ⟨rfl, below_drewN' (Below.refl _ _) _⟩
            | true =>
              have HIB := hid_mk (hi2 rfl)
              clear hi2
              have HM0 := hid_mk H.out.2.2.2
              have HN := hid_mk H.out.1
              clear H HSA HSB hca hcb
              go_wp2_with fail
              refine (crows_any _ n cap rows HN.out hn HBD.out _ (by exact HM0.out.drewN _)).mono ?_
              rintro e w1 ⟨ao1, rfl, hm1, _, hb1⟩
              have B1 : Hid (Below w.heap.size w w1) := ext (below_drewN' (Below.refl _ w) _) hb1
              have M1 := hid_mk hm1
              clear hm1 hb1 HM0
              go_wp2_with fail
              refine (crows_any ao1 n n rows HN.out hn HBD.out w1 M1.out).mono ?_
              rintro e w2 ⟨ao2, rfl, hm2, _, hb2⟩
              have B2 := hid_mk (ext B1.out hb2)
              have B12 := hid_mk hb2
              have M2 := hid_mk hm2
              clear hm2 hb2
              go_wp2_with fail
              refine (newg_any ao2 n n w2).mono ?_
              rintro e w3 ⟨G, rfl, hG, hb3⟩
              have B3 := hid_mk (ext B2.out hb3)
              have B13 := hid_mk (ext B12.out hb3)
              have M3 := hid_mk (M2.out.below hb3)
              have HG := hid_mk hG
              clear hG hb3
              go_wp2_with fail
              refine (label_any G ao2 n n rows ia ib la lb HN.out HRA.out HRB.out (by rw [HLA.out]; exact hna) (by rw [HLB.out]; exact hnb) HIA.out HIB.out w3 HG.out M3.out).mono ?_
              rintro e w4 ⟨aab, cab, rfl, hs4, hb4⟩
              have B4 := hid_mk (ext B3.out hb4)
              have B14 := hid_mk (ext B13.out hb4)
              have M4 := hid_mk (M3.out.below hb4)
              have HG4 : Hid (w4.cell? ⟨G, 1, none⟩ = some (.slice ao2 n n)) := (hb4.cell (cell_lt HG.out)).trans HG.out
              have S4 := hid_mk hs4
              clear hs4 hb4
              obtain ⟨m, hm⟩ : ∃ m, (inter la lb).length = m := ⟨_, rfl⟩
              have hmb : m ≤ 1048576 := by have := inter_length la lb; have := HLA.out; omega
              have HMM := hid_mk hm
              rw [hm]
              clear hm
              obtain ⟨bq, oq, a1, c1, eq1, hcq, _, hsq⟩ := (M1.out.below B14.out) ia la HRA.out
              obtain ⟨bq', oq', a2, c2, eq2, hcq2, _, hsq2⟩ := (M1.out.below B14.out) ib lb HRB.out
              subst eq1
              obtain ⟨rfl, rfl⟩ : bq = bq' ∧ oq = oq' := by simpa using eq2
              rw [HLA.out] at hcq
              rw [HLB.out] at hcq2
              have SA := hid_mk hsq
              have SB := hid_mk hsq2
              clear hsq hsq2 eq2
              go_wp2_with fail
              clear hcq hcq2
              go_loopw [11, 12] (fun v c wr => ∃ (k : Nat) (acc : List ByteArray), c = .int .i64 k ∧ k ≤ na ∧ acc = inter (la.take k) lb ∧ wr.ownsRow w4.heap.size 9 1 v acc.length (acc.map Value.string) ∧ Below w4.heap.size w4 wr) (fun _ c _ => na - (intOf c).toNat)
              case atStart => exact ⟨0, [], rfl, Nat.zero_le _, rfl, World.ownsRow_nil _ _ _ _, Below.refl _ _⟩
              case round =>
                obtain ⟨k, acc, rfl, hk, hacc, hown, hb⟩ := hrel
                have HAC := hid_mk hacc
                have HOW := hid_mk hown
                have HBB := hid_mk hb
                clear hacc hown hb
                by_cases hlt : k < na
                · obtain ⟨x, hx⟩ := getOf HLA.out hlt
                  obtain ⟨b1, o1, e1, hc1⟩ := SA.out k x hx
                  subst e1
                  have hw1 : wr.cell? ⟨b1, o1 + k, none⟩ = some (.string x) := (HBB.out.cell (cell_lt hc1)).trans hc1
                  have HSt := hid_mk (inter_snoc (la.take k) lb x)
                  have HTk := hid_mk (take_snoc hx)
                  clear hx hc1
                  cases hh : hasB lb x with
                  | false =>
                    have HN : Hid (acc = inter (la.take (k + 1)) lb) := by
                      unfold Hid; rw [HTk.out, HSt.out, hh, HAC.out]; simp
                    go_wp2_with fail
                    refine (has_any a2 nb c2 lb x HLB.out hnb HIB.out wr (SB.out.below HBB.out)).mono ?_
                    rintro e w' ⟨rfl, hw⟩
                    subst w'
                    rw [hh]
                    go_wp2
                    go_roundw
                    case rel => exact ⟨k + 1, acc, by go_num, by omega, HN.out, HOW.out, HBB.out⟩
                    case measure => simp [intOf]; omega
                  | true =>
                    have HN : Hid (acc ++ [x] = inter (la.take (k + 1)) lb) := by
                      unfold Hid; rw [HTk.out, HSt.out, hh, HAC.out]; simp
                    have hal : acc.length ≤ 1048576 := by
                      have h1 := inter_length (la.take k) lb
                      rw [← HAC.out] at h1
                      have := List.length_take_le k la
                      omega
                    have hbs := HBB.out.size
                    go_wp2_with fail
                    refine (has_any a2 nb c2 lb x HLB.out hnb HIB.out wr (SB.out.below HBB.out)).mono ?_
                    rintro e w' ⟨rfl, hw⟩
                    subst w'
                    rw [hh]
                    obtain ⟨t0, ht0, hz0, hz1, hz2⟩ := info_parts Try.info9
                    go_wp2_with (at_builtin; refine wpList_append_own _ rfl (.tmp 84) (.tmp 89) 26 rfl w4.heap.size 9 t0 (.string ByteArray.empty) 1 16 Try.underlying26 ht0 hz0 hz1 hz2 rfl (by decide) _ _ _ rfl (HOW.out.alloc _) ⟨wr.heap.size, 0, none⟩ 1 1 [.string x] rfl rfl ?c1 ?c2 ?c3 ?c4 ?c5 ?_)
                    case c1 => exact cell_one_new _ _ _
                    case c2 => intro u hu; simp at hu; subst hu; rfl
                    case c3 => unfold maxLen; omega
                    case c4 => omega
                    case c5 => simp; omega
                    intro v' w6 hown' hgrow _
                    have HB1 : Hid (Below w4.heap.size w4 w6) := (HBB.out.alloc hbs _).grown hgrow (by simp; omega) (fun k hk => (HOW.out.lt k hk).1)
                    have HO1 : Hid (w6.ownsRow w4.heap.size 9 1 v' (acc ++ [x]).length ((acc ++ [x]).map Value.string)) := by unfold Hid; simpa using hown'
                    clear hown' hgrow ht0 hz0 hz1 hz2
                    go_wp2
                    go_roundw
                    case rel => exact ⟨k + 1, acc ++ [x], by go_num, by omega, HN.out, HO1.out, HB1.out⟩
                    case measure => simp [intOf]; omega
                · have hke : acc = inter la lb := by
                    have := HAC.out
                    rwa [List.take_of_length_le (by have := HLA.out; omega)] at this
                  have HE : Hid (LabBack w4 (inter la lb) (.returned u11) wr) := labBack_of HOW.out HBB.out hke
                  obtain ⟨ao6, cap6, hv6, hs6, hb6⟩ := HE.out
                  have hv : u11 = .slice ao6 m cap6 := by
                    have h1 : u11 = .slice ao6 (inter la lb).length cap6 := by injection hv6
                    rwa [HMM.out] at h1
                  subst hv
                  have S6 := hid_mk hs6
                  have S4' := hid_mk (S4.out.below hb6)
                  have B6 := hid_mk (ext B4.out hb6)
                  clear hv6 hs6 hb6 hke HE HOW HAC
                  go_wp2_with fail
                  refine (same_any aab ao6 m m cab cap6 (inter la lb) HMM.out HMM.out hmb wr S4'.out S6.out).mono ?_
                  rintro e w' ⟨rfl, q1, hw⟩
                  subst w'
                  go_wp2
                  go_ret
                  exact ⟨rfl, below_drewN' B6.out _⟩
end Go.Proofs.Qxb6630356a
