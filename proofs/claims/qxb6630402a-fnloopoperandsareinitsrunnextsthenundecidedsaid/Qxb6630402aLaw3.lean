/-
  THE WALK OF FnLoopOperandsAreInitsRunNextsThenUndecided: it returns true, whatever the input.
-/
import Derived.Test.Qxb6630402aHolds
namespace Go.Proofs.Qxb6630402a
open Go.RowKit

set_option maxRecDepth 100000 in
set_option maxHeartbeats 1000000 in
theorem law3_long (a0 a1 : Option Addr) (n0 n1 c0 c1 : Nat) (sr sx sy sz sm : Bool) (w : World) (b0 : n0 ≤ maxLen) (b1 : n1 ≤ maxLen) (h : ¬ (n0 ≤ 4096 ∧ n1 ≤ 4096)) :
    Calls Try.prog 3 #[.slice a0 n0 c0, .slice a1 n1 c1, .bool sr, .bool sx, .bool sy, .bool sz, .bool sm] w fun e w' => e = .returned (.bool true) ∧ Below w.heap.size w w' := by
  unfold maxLen at b0 b1
  by_cases g0 : n0 ≤ 1048576
  · by_cases g1 : n1 ≤ 1048576
    · by_cases g2 : n0 + n1 ≤ 1048576
      · by_cases g3 : n0 ≤ 4096
        · have g4 : ¬ n1 ≤ 4096 := fun h' => h ⟨g3, h'⟩
          clear h
          go_enter Try.func3, Try.ntmps3
          go_wp2
          go_ret
          exact ⟨rfl, Below.refl _ _⟩
        · clear h
          go_enter Try.func3, Try.ntmps3
          go_wp2
          go_ret
          exact ⟨rfl, Below.refl _ _⟩
      · clear h
        go_enter Try.func3, Try.ntmps3
        go_wp2
        go_ret
        exact ⟨rfl, Below.refl _ _⟩
    · clear h
      go_enter Try.func3, Try.ntmps3
      go_wp2
      go_ret
      exact ⟨rfl, Below.refl _ _⟩
  · clear h
    go_enter Try.func3, Try.ntmps3
    go_wp2
    go_ret
    exact ⟨rfl, Below.refl _ _⟩

set_option maxRecDepth 100000 in
set_option maxHeartbeats 1000000 in
/-- zzBytes, of short slices. -/
theorem bytes5_short (a0 a1 : Option Addr) (n0 n1 c0 c1 : Nat) (sr sx sy sz sm : Bool) (w : World) (b0 : n0 ≤ 4096) (b1 : n1 ≤ 4096) :
    Calls Try.prog 5 #[.slice a0 n0 c0, .slice a1 n1 c1, .bool sr, .bool sx, .bool sy, .bool sz, .bool sm] w fun e w' => e = .returned (.bool true) ∧ w' = w := by
  go_enter Try.func5, Try.ntmps5
  go_wp2
  go_ret
  exact ⟨rfl, rfl⟩

theorem size_alloc' (w : World) (o : Obj) : (w.alloc o).heap.size = w.heap.size + 1 := by simp
theorem carry {w w' : World} {a : Addr} {v : Value} (hb : Below w.heap.size w w') (h : w.cell? a = some v) : w'.cell? a = some v := (hb.cell (cell_lt h)).trans h

set_option maxRecDepth 100000 in
set_option maxHeartbeats 8000000 in
theorem law3_short (a0 a1 : Option Addr) (n0 n1 c0 c1 : Nat) (sr sx sy sz sm : Bool) (w : World) (b0 : n0 ≤ 4096) (b1 : n1 ≤ 4096) (h0 : Bools w a0 n0) (h1 : Bools w a1 n1) :
    Calls Try.prog 3 #[.slice a0 n0 c0, .slice a1 n1 c1, .bool sr, .bool sx, .bool sy, .bool sz, .bool sm] w fun e w' => e = .returned (.bool true) ∧ Below w.heap.size w w' := by
  have H0 := hid_mk h0
  have H1 := hid_mk h1
  clear h0 h1
  have hmk0 := run_make_row' (P := Try.prog) 24 25 (.pointer none) 8 Try.underlying24 Try.info25 rfl .i64 .i64 n0 (by omega) (by omega)
  have hmk1 := run_make_row' (P := Try.prog) 24 25 (.pointer none) 8 Try.underlying24 Try.info25 rfl .i64 .i64 n1 (by omega) (by omega)
  go_enter Try.func3, Try.ntmps3
  go_wp2_with fail
  refine (bytes5_short a0 a1 n0 n1 c0 c1 sr sx sy sz sm w b0 b1).mono ?_
  rintro e w' ⟨rfl, hw⟩
  subst w'
  go_wp2_with fail
  clear hmk0
  -- the first loop: inits
  go_loopw [16] (fun c wr => ∃ (k : Nat) (f : Nat → Option Addr), k ≤ n0 ∧ c = .int .i64 k ∧ wr.rowIs w.heap.size 25 n0 (fun j => .pointer (f j)) ∧ (∀ j, LeafOk wr (f j)) ∧ Below w.heap.size w wr) (fun c _ => n0 - (intOf c).toNat)
  case atStart => exact ⟨0, fun _ => none, Nat.zero_le _, rfl, World.rowIs_made _ _ _ _, fun _ => LeafOk.ofNil _, (Below.refl _ _).alloc (Nat.le_refl _) _⟩
  case round =>
    obtain ⟨k, f, hk, rfl, hrow, hf, hb⟩ := hrel
    have HF := hid_mk hf
    have HR := hid_mk hrow
    have HB := hid_mk hb
    clear hf hrow hb
    by_cases hlt : k < n0
    · obtain ⟨b, o, v, e1, hc1⟩ := H0.out k hlt
      subst e1
      have hcx : wr.cell? ⟨b, o + k, none⟩ = some (.bool v) := (HB.out.cell (cell_lt hc1)).trans hc1
      clear hc1
      go_wp2_with fail
      refine (leafIf2_any _ _ _).mono ?_
      rintro e w1 ⟨p, rfl, _, hl1, _, hb1⟩
      have HR1 := hid_mk (rowIs_below HR.out hb1)
      have hcell := HR1.out.cell hlt
      have hfr := HR1.out.frozen k
      have HL1 := hid_mk hl1
      have HB1 := hid_mk hb1
      clear hl1 hb1
      go_wp2
      go_roundw
      case rel =>
        obtain ⟨cc, hcc, _⟩ := HR1.out
        refine ⟨k + 1, fun j => if j = k then p else f j, by omega, by go_num, (HR1.out.set k _).congr (fun j _ => ?_), fun j => ?_, (HB.out.trans (HB1.out.mono HB.out.size)).setCell (Nat.le_refl _) _⟩
        · by_cases e : j = k <;> simp [e]
        · refine LeafOk.setCell ?_ hcc _
          by_cases e : j = k
          · simp only [e, if_true]; exact HL1.out
          · simp only [e, if_false]; exact (HF.out j).below HB1.out
      case measure => simp [intOf]; omega
    · go_wp2_with fail
      clear hmk1
      -- the second loop: nexts
      go_loopw [18] (fun c wx => ∃ (k1 : Nat) (f1 : Nat → Option Addr), k1 ≤ n1 ∧ c = .int .i64 k1 ∧ wx.rowIs wr.heap.size 25 n1 (fun j => .pointer (f1 j)) ∧ (∀ j, LeafOk wx (f1 j)) ∧ Below wr.heap.size wr wx) (fun c _ => n1 - (intOf c).toNat)
      case atStart => exact ⟨0, fun _ => none, Nat.zero_le _, rfl, World.rowIs_made _ _ _ _, fun _ => LeafOk.ofNil _, (Below.refl _ _).alloc (Nat.le_refl _) _⟩
      case round =>
        obtain ⟨k1, f1, hk1, rfl, hrow, hf, hb⟩ := hrel
        have HF1 := hid_mk hf
        have HR1 := hid_mk hrow
        have HB1 := hid_mk hb
        have HBW := hid_mk (ext HB.out hb)
        clear hf hrow hb
        by_cases hlt1 : k1 < n1
        · obtain ⟨b, o, v, e1, hc1⟩ := H1.out k1 hlt1
          subst e1
          have hcx : wr.cell? ⟨b, o + k1, none⟩ = some (.bool v) := (HBW.out.cell (cell_lt hc1)).trans hc1
          clear hc1
          go_wp2_with fail
          refine (leafIf2_any _ _ _).mono ?_
          rintro e w1 ⟨p, rfl, _, hl1, _, hb1⟩
          have HR2 := hid_mk (rowIs_below HR1.out hb1)
          have hcell := HR2.out.cell hlt1
          have hfr := HR2.out.frozen k1
          have HL1 := hid_mk hl1
          have HB2 := hid_mk hb1
          clear hl1 hb1
          go_wp2
          go_roundw
          case rel =>
            obtain ⟨cc, hcc, _⟩ := HR2.out
            refine ⟨k1 + 1, fun j => if j = k1 then p else f1 j, by omega, by go_num, (HR2.out.set k1 _).congr (fun j _ => ?_), fun j => ?_, (HB1.out.trans (HB2.out.mono HB1.out.size)).setCell (Nat.le_refl _) _⟩
            · by_cases e : j = k1 <;> simp [e]
            · refine LeafOk.setCell ?_ hcc _
              by_cases e : j = k1
              · simp only [e, if_true]; exact HL1.out
              · simp only [e, if_false]; exact (HF1.out j).below HB2.out
          case measure => simp [intOf]; omega
        · -- what stands: the two lists
          obtain ⟨li, hli⟩ : ∃ li, (List.range n0).map f = li := ⟨_, rfl⟩
          obtain ⟨ln, hln⟩ : ∃ ln, (List.range n1).map f1 = ln := ⟨_, rfl⟩
          have NI : Hid (li.length = n0) := by unfold Hid; rw [← hli]; simp
          have NN : Hid (ln.length = n1) := by unfold Hid; rw [← hln]; simp
          have PI : Hid (Ptrs wr (some ⟨w.heap.size, 0, none⟩) li) := by unfold Hid; rw [← hli]; exact ptrs_of_row (rowIs_below HR.out HB1.out)
          have PN := hid_mk (ptrs_of_row HR1.out)
          rw [hln] at PN
          have LI : Hid (∀ p ∈ li, LeafOk wr p) := fun p hp => by
            rw [← hli] at hp
            obtain ⟨j, _, rfl⟩ := List.mem_map.1 hp
            exact (HF.out j).below HB1.out
          have LN : Hid (∀ p ∈ ln, LeafOk wr p) := fun p hp => by
            rw [← hln] at hp
            obtain ⟨j, _, rfl⟩ := List.mem_map.1 hp
            exact HF1.out j
          clear hli hln HF HF1 HR HR1 HB HB1 hlt hk H0 H1
          go_wp2_with fail
          refine (leafIf2_any _ _ _).mono ?_
          rintro e w3 ⟨pr, rfl, _, lr3, _, b3⟩
          have LR3 := hid_mk lr3
          have E3 := hid_mk b3
          clear lr3 b3
          go_wp2_with fail
          refine (leaf2_any _ _).mono ?_
          rintro e w4 ⟨pu, rfl, hsu, lu4, hfr, b4⟩
          obtain ⟨u, rfl⟩ := Option.isSome_iff_exists.1 hsu
          have HU := hid_mk (hfr u rfl)
          have LU4 := hid_mk lu4
          have E4 := hid_mk b4
          clear lu4 b4 hsu hfr
          go_wp2_with fail
          refine (leafIf2_any _ _ _).mono ?_
          rintro e w5 ⟨p5, rfl, _, _, _, b5⟩
          have q06 := hid_mk (carry b5 (cell_keep (cell_new (k := 6) rfl rfl)))
          have q07 := hid_mk (carry b5 (cell_keep (cell_new (k := 7) rfl rfl)))
          have q08 := hid_mk (carry b5 (cell_keep (cell_new (k := 8) rfl rfl)))
          have q0u := hid_mk (carry b5 (cell_keep (cell_new (k := 10) rfl rfl)))
          have q16 := hid_mk (carry b5 (cell_new (n := w4.heap.size + 1) (k := 6) (by simp) rfl))
          have q17 := hid_mk (carry b5 (cell_new (n := w4.heap.size + 1) (k := 7) (by simp) rfl))
          have q18 := hid_mk (carry b5 (cell_new (n := w4.heap.size + 1) (k := 8) (by simp) rfl))
          have q1u := hid_mk (carry b5 (cell_new (n := w4.heap.size + 1) (k := 10) (by simp) rfl))
          have E5 : Hid (Below w4.heap.size w4 w5) := ext (((Below.refl w4.heap.size w4).alloc (Nat.le_refl _) _).alloc (by simp) _) b5
          clear b5
          go_wp2_with fail
          refine (leafIf2_any _ _ _).mono ?_
          rintro e w6 ⟨p6, rfl, _, _, _, b6⟩
          have E56 := hid_mk (b6)
          clear b6
          go_wp2_with fail
          refine (leafIf2_any _ _ _).mono ?_
          rintro e w7 ⟨p7, rfl, _, _, _, b7⟩
          have E57 := hid_mk (ext E56.out b7)
          clear b7
          go_wp2_with fail
          refine (leafIf2_any _ _ _).mono ?_
          rintro e w8 ⟨p8, rfl, _, _, _, b8⟩
          have E58 := hid_mk (ext E57.out b8)
          clear b8
          go_wp2_with fail
          refine (leafIf2_any _ _ _).mono ?_
          rintro e w9 ⟨p9, rfl, _, _, _, b9⟩
          have v00 := hid_mk (carry b9 (cell_new (k := 0) rfl rfl))
          have v09 := hid_mk (carry b9 (cell_new (k := 9) rfl rfl))
          have E59 := hid_mk (ext E58.out (ext ((Below.refl w8.heap.size w8).alloc (Nat.le_refl _) _) b9))
          clear b9
          go_wp2_with fail
          refine (leafIf2_any _ _ _).mono ?_
          rintro e w10 ⟨p10, rfl, _, _, _, b10⟩
          have E9a := hid_mk (b10)
          clear b10
          go_wp2_with fail
          refine (leafIf2_any _ _ _).mono ?_
          rintro e w11 ⟨p11, rfl, _, _, _, b11⟩
          have E9b := hid_mk (ext E9a.out b11)
          clear b11
          go_wp2_with fail
          refine (leafIf2_any _ _ _).mono ?_
          rintro e w12 ⟨p12, rfl, _, _, _, b12⟩
          have E9c := hid_mk (ext E9b.out b12)
          clear b12
          have E5c := hid_mk (ext E59.out E9c.out)
          have T06 := hid_mk (carry E5c.out q06.out)
          have T07 := hid_mk (carry E5c.out q07.out)
          have T08 := hid_mk (carry E5c.out q08.out)
          have T0u := hid_mk (carry E5c.out q0u.out)
          have T16 := hid_mk (carry E5c.out q16.out)
          have T17 := hid_mk (carry E5c.out q17.out)
          have T18 := hid_mk (carry E5c.out q18.out)
          have T1u := hid_mk (carry E5c.out q1u.out)
          have U00 := hid_mk (carry E9c.out v00.out)
          have U09 := hid_mk (carry E9c.out v09.out)
          have E4c := hid_mk (ext E5.out E5c.out)
          have E3c := hid_mk (ext E4.out E4c.out)
          have Erc := hid_mk (ext E3.out E3c.out)
          have Ewc := hid_mk (ext HBW.out Erc.out)
          have PIc := hid_mk (PI.out.below Erc.out)
          have PNc := hid_mk (PN.out.below Erc.out)
          have LIc : Hid (∀ p ∈ li, LeafOk w12 p) := fun p hp => (LI.out p hp).below Erc.out
          have LNc : Hid (∀ p ∈ ln, LeafOk w12 p) := fun p hp => (LN.out p hp).below Erc.out
          have LRc := hid_mk (LR3.out.below E3c.out)
          have LUc := hid_mk (LU4.out.below E4c.out)
          clear q06 q07 q08 q0u q16 q17 q18 q1u v00 v09 E56 E57 E58 E59 E9a E9b E9c E5 E5c E4 E3 E4c E3c Erc PI PN LI LN LR3 LU4 HBW
          obtain ⟨t0, ht0, hz0, hz1, hz2⟩ := info_parts Try.info25
          go_wp2_with (at_make; refine wpList_make_own _ rfl _ _ 24 rfl (w12.heap.size + 1) 25 t0 (.pointer none) 1 Try.underlying24 ht0 hz0 hz1 _ _ _ (n0 + 1 + n1) rfl rfl (by omega) ?b2 ?b3 (by simp) ?_)
          case b2 => rw [hz2]; omega
          case b3 => unfold maxLen; omega
          intro wW hownW hgrowW
          have BW : Hid (Below (w12.heap.size + 1) _ wW) := (Below.refl (w12.heap.size + 1) _).grown hgrowW (by simp) (fun k hk => by cases hk)
          have EW : Hid (Below w12.heap.size w12 wW) := ((Below.refl w12.heap.size w12).alloc (Nat.le_refl _) _).grown hgrowW (by simp) (fun k hk => by cases hk)
          have V10 := hid_mk ((BW.out.cell (p := ⟨w12.heap.size, 0, none⟩) (by simp)).trans (cell_new (k := 0) rfl rfl))
          have V19 := hid_mk ((BW.out.cell (p := ⟨w12.heap.size, 9, none⟩) (by simp)).trans (cell_new (k := 9) rfl rfl))
          have hBW : w12.heap.size + 1 ≤ wW.heap.size := by have := hgrowW.size; simpa using this
          have OW := hid_mk hownW
          clear hownW hgrowW BW
          go_wp2_with fail
          -- the third loop: want takes the inits
          go_loopw [25, 26] (fun v c wx => ∃ (k : Nat) (acc : List (Option Addr)), c = .int .i64 k ∧ k ≤ n0 ∧ acc = li.take k ∧ wx.ownsRow (w12.heap.size + 1) 25 1 v acc.length (acc.map Value.pointer) ∧ Below (w12.heap.size + 1) wW wx) (fun _ c _ => n0 - (intOf c).toNat)
          case atStart => exact ⟨0, [], rfl, Nat.zero_le _, rfl, OW.out, Below.refl _ _⟩
          case round =>
            obtain ⟨k, acc, rfl, hk, hacc, ho, hb⟩ := hrel
            have HAC := hid_mk hacc
            clear hacc
            have HO := hid_mk ho
            have HX := hid_mk hb
            have EX := hid_mk (EW.out.trans (hb.mono (Nat.le_succ _)))
            have hbs : w12.heap.size + 1 ≤ wr.heap.size := Nat.le_trans hBW hb.size
            clear ho hb
            by_cases hlt : k < n0
            · obtain ⟨p, hp⟩ := getOf NI.out hlt
              obtain ⟨b, o, e1, hc1⟩ := PIc.out k p hp
              obtain ⟨rfl, rfl⟩ : w.heap.size = b ∧ 0 = o := by simpa using e1
              rw [Nat.zero_add] at hc1
              have hcx : wr.cell? ⟨w.heap.size, k, none⟩ = some (.pointer p) := (EX.out.cell (cell_lt hc1)).trans hc1
              have HTk := hid_mk (take_snoc hp)
              have hal : acc.length ≤ 4096 := by rw [HAC.out]; exact Nat.le_trans (List.length_take_le _ _) (by omega)
              have HNx : Hid (acc ++ [p] = li.take (k + 1)) := by unfold Hid; rw [HTk.out, HAC.out]
              clear hp e1 hc1
              go_wp2_with (at_builtin; refine wpList_append_own _ rfl (.tmp 137) (.tmp 142) 24 rfl (w12.heap.size + 1) 25 t0 (.pointer none) 1 8 Try.underlying24 ht0 hz0 hz1 hz2 rfl (by decide) _ _ _ rfl (HO.out.alloc _) ⟨wr.heap.size, 0, none⟩ 1 1 [.pointer p] rfl rfl ?c1 ?c2 ?c3 ?c4 ?c5 ?_)
              case c1 => exact cell_one_new _ _ _
              case c2 => intro x hx; simp at hx; subst hx; rfl
              case c3 => unfold maxLen; omega
              case c4 => omega
              case c5 => simp; omega
              intro v' w6' hown' hgrow _
              have HB6 : Hid (Below (w12.heap.size + 1) wW w6') := (HX.out.alloc hbs _).grown hgrow (by simp; omega) (fun k hk => (HO.out.lt k hk).1)
              have HO6 : Hid (w6'.ownsRow (w12.heap.size + 1) 25 1 v' (acc ++ [p]).length ((acc ++ [p]).map Value.pointer)) := by
                unfold Hid; simpa using hown'
              clear hown' hgrow hcx
              go_wp2
              go_roundw
              case rel => exact ⟨k + 1, acc ++ [p], by go_num, by omega, HNx.out, HO6.out, HB6.out⟩
              case measure => simp [intOf]; omega
            · have HOl : Hid (wr.ownsRow (w12.heap.size + 1) 25 1 u25 li.length (li.map Value.pointer)) := by
                have h := HO.out
                rwa [HAC.out, List.take_of_length_le (by have := NI.out; omega)] at h
              have hll : li.length ≤ 4096 := by have := NI.out; omega
              go_wp2_with (at_builtin; refine wpList_append_own _ rfl (.tmp 144) (.tmp 146) 24 rfl (w12.heap.size + 1) 25 t0 (.pointer none) 1 8 Try.underlying24 ht0 hz0 hz1 hz2 rfl (by decide) _ _ _ rfl (HOl.out.alloc _) ⟨wr.heap.size, 0, none⟩ 1 1 [.pointer pr] rfl rfl ?d1 ?d2 ?d3 ?d4 ?d5 ?_)
              case d1 => exact cell_one_new _ _ _
              case d2 => intro x hx; simp at hx; subst hx; rfl
              case d3 => unfold maxLen; omega
              case d4 => omega
              case d5 => simp; omega
              intro vR wR hownR hgrowR _
              have HBR : Hid (Below (w12.heap.size + 1) wW wR) := (HX.out.alloc hbs _).grown hgrowR (by simp; omega) (fun k hk => (HOl.out.lt k hk).1)
              have HOR : Hid (wR.ownsRow (w12.heap.size + 1) 25 1 vR (li ++ [pr]).length ((li ++ [pr]).map Value.pointer)) := by
                unfold Hid; simpa using hownR
              clear hownR hgrowR HOl HO HX EX hbs hlt hk hll
              go_wp2_with fail
              -- the fourth loop: want takes the nexts
              go_loopw [25, 27] (fun v c wx => ∃ (k : Nat) (acc : List (Option Addr)), c = .int .i64 k ∧ k ≤ n1 ∧ acc = li ++ [pr] ++ ln.take k ∧ wx.ownsRow (w12.heap.size + 1) 25 1 v acc.length (acc.map Value.pointer) ∧ Below (w12.heap.size + 1) wW wx) (fun _ c _ => n1 - (intOf c).toNat)
              case atStart => exact ⟨0, li ++ [pr], rfl, Nat.zero_le _, by simp, HOR.out, HBR.out⟩
              case round =>
                obtain ⟨k, acc, rfl, hk, hacc, ho, hb⟩ := hrel
                have HAC := hid_mk hacc
                clear hacc
                have HO := hid_mk ho
                have HX := hid_mk hb
                have EX := hid_mk (EW.out.trans (hb.mono (Nat.le_succ _)))
                have hbs : w12.heap.size + 1 ≤ wr.heap.size := Nat.le_trans hBW hb.size
                clear ho hb
                by_cases hlt : k < n1
                · obtain ⟨p, hp⟩ := getOf NN.out hlt
                  obtain ⟨b, o, e1, hc1⟩ := PNc.out k p hp
                  have e2 := Option.some.inj e1
                  injection e2 with eb eo _
                  subst eb eo
                  rw [Nat.zero_add] at hc1
                  have hcx := (EX.out.cell (cell_lt hc1)).trans hc1
                  have HTk := hid_mk (take_snoc hp)
                  have hal : acc.length ≤ 9000 := by
                    have h1 := List.length_take_le k ln
                    have h2 := NI.out
                    rw [HAC.out, List.length_append, List.length_append, List.length_singleton]; omega
                  have HNx : Hid (acc ++ [p] = li ++ [pr] ++ ln.take (k + 1)) := by unfold Hid; rw [HTk.out, HAC.out, List.append_assoc (li ++ [pr])]
                  clear hp e1 hc1
                  go_wp2_with (at_builtin; refine wpList_append_own _ rfl (.tmp 154) (.tmp 159) 24 rfl (w12.heap.size + 1) 25 t0 (.pointer none) 1 8 Try.underlying24 ht0 hz0 hz1 hz2 rfl (by decide) _ _ _ rfl (HO.out.alloc _) ⟨wr.heap.size, 0, none⟩ 1 1 [.pointer p] rfl rfl (cell_one_new _ _ _) (ptr_oneCell [p]) (by unfold maxLen; omega) (by omega) (by simp only [size_alloc']; omega) ?_)
                  intro v' w6' hown' hgrow _
                  have HB6 : Hid (Below (w12.heap.size + 1) wW w6') := (HX.out.alloc hbs _).grown hgrow (by simp; omega) (fun k hk => (HO.out.lt k hk).1)
                  have HO6 : Hid (w6'.ownsRow (w12.heap.size + 1) 25 1 v' (acc ++ [p]).length ((acc ++ [p]).map Value.pointer)) := by
                    unfold Hid; simpa using hown'
                  clear hown' hgrow hcx
                  go_wp2
                  go_roundw
                  case rel => exact ⟨k + 1, acc ++ [p], by go_num, by omega, HNx.out, HO6.out, HB6.out⟩
                  case measure => simp [intOf]; omega
                · obtain ⟨Wl, hWl⟩ : ∃ Wl, li ++ [pr] ++ ln = Wl := ⟨_, rfl⟩
                  obtain ⟨N, hN⟩ : ∃ N, n0 + 1 + n1 = N := ⟨_, rfl⟩
                  have HWl := hid_mk hWl
                  have WN : Hid (Wl.length = N) := by
                    unfold Hid; rw [← hWl, List.length_append, List.length_append, NI.out, NN.out, ← hN]; rfl
                  have hNb : N ≤ 8193 := by omega
                  have hN1 : 1 ≤ N := by omega
                  have HOW : Hid (wr.ownsRow (w12.heap.size + 1) 25 1 u25 N (Wl.map Value.pointer)) := by
                    have h := HO.out
                    rw [HAC.out, List.take_of_length_le (by have := NN.out; omega), hWl, WN.out] at h
                    exact h
                  obtain ⟨gW, capW, hvW, hgW, hgW2, _, _⟩ := own_form HOW.out (by omega)
                  clear hWl hN
                  subst hvW
                  go_wp2_with fail
                  refine (opl_none w8.heap.size w4.heap.size _ _ li ln n0 n1 n0 n1 pr NI.out NN.out b0 b1 wr (carry EX.out U00.out) (carry EX.out U09.out) (carry EX.out T0u.out) (carry EX.out T06.out) (carry EX.out T07.out) (carry EX.out T08.out) (PIc.out.below EX.out) (PNc.out.below EX.out)).mono ?_
                  rintro e wR0 ⟨v0, rfl, ho0, hb0⟩
                  rw [HWl.out, WN.out] at ho0
                  obtain ⟨g0, cap0, hv0, hg0, hg02, _, _⟩ := own_form ho0 (by omega)
                  subst hv0
                  have O0 := hid_mk ho0
                  have X0 := hid_mk hb0
                  have E12R := hid_mk (ext EX.out hb0)
                  have V10' := hid_mk (carry hb0 ((HX.out.cell (p := ⟨w12.heap.size, 0, none⟩) (by simp)).trans V10.out))
                  have V19' := hid_mk (carry hb0 ((HX.out.cell (p := ⟨w12.heap.size, 9, none⟩) (by simp)).trans V19.out))
                  clear ho0 hb0
                  go_wp2_with fail
                  refine (opl_some w12.heap.size (w4.heap.size + 1) _ _ li ln n0 n1 n0 n1 pr u NI.out NN.out b0 b1 wR0 V10'.out V19'.out (carry E12R.out T1u.out) (carry E12R.out T16.out) (carry E12R.out T17.out) (carry E12R.out T18.out) (PIc.out.below E12R.out) (PNc.out.below E12R.out)).mono ?_
                  rintro e wR1 ⟨v1, rfl, ho1, hb1⟩
                  have hL1 : (Wl ++ [some u]).length = N + 1 := by rw [List.length_append, WN.out]; rfl
                  rw [HWl.out, hL1] at ho1
                  obtain ⟨g1, cap1, hv1, hg1, hg12, hcap1, hm1⟩ := own_form ho1 (by omega)
                  unfold maxLen at hm1
                  subst hv1
                  have O1 := hid_mk ho1
                  have X1 := hid_mk hb1
                  have HL1 := hid_mk hL1
                  clear ho1 hb1 hL1
                  have P0 := hid_mk ((ptrs_of_owns O0.out).below X1.out)
                  have PW := hid_mk ((ptrs_of_owns HOW.out).below (ext X0.out X1.out))
                  have P1 := hid_mk (ptrs_of_owns O1.out)
                  have iN0 : (0 : Int) ≤ (N : Int) := by omega
                  have iN1 : (N : Int) ≤ (cap1 : Int) := by omega
                  go_wp2_with fail
                  refine (same_any _ _ N N cap0 capW Wl WN.out WN.out (by omega) wR1 P0.out PW.out).mono ?_
                  rintro e w' ⟨rfl, m1, hw⟩
                  subst w'
                  go_wp2_with fail
                  refine (same_any _ _ N N cap1 capW Wl WN.out WN.out (by omega) _ (by exact (ptrs_left P1.out).drewN _) (by exact PW.out.drewN _)).mono ?_
                  rintro e w' ⟨rfl, m2, hw⟩
                  subst w'
                  have hcu : wR1.cell? ⟨g1, N, none⟩ = some (.pointer (some u)) := by
                    obtain ⟨b, o, e1, hc⟩ := P1.out N (some u) (by rw [← WN.out]; simp)
                    obtain ⟨rfl, rfl⟩ : g1 = b ∧ 0 = o := by simpa using e1
                    rwa [Nat.zero_add] at hc
                  have hne := fun wx => neq_same (some u) wx
                  have iN2 : (N : Int) < ((N + 1 : Nat) : Int) := by omega
                  go_wp2_with fail
                  refine (leaf2_any _ _).mono ?_
                  rintro e wM ⟨pmk, rfl, hsm, lmk, hfm, bM⟩
                  obtain ⟨mk, rfl⟩ := Option.isSome_iff_exists.1 hsm
                  have hmk : mk.block = wR1.heap.size := by rw [hfm mk rfl]; simp
                  have HMK := hid_mk hmk
                  have LM := hid_mk lmk
                  have EM : Hid (Below wR1.heap.size wR1 wM) := ext (below_drewN' (Below.refl wR1.heap.size wR1) _) bM
                  clear hsm lmk hfm bM hmk hcu hne iN2
                  have E12M := hid_mk (ext (ext E12R.out X1.out) EM.out)
                  have O0M := hid_mk (owns_below O0.out (ext X1.out EM.out))
                  have P1M := hid_mk (P1.out.below EM.out)
                  have hs1 := X0.out.size
                  have hs2 := X1.out.size
                  go_wp2_with fail
                  -- the fifth loop: the marker is written into r0
                  go_loopw [31] (fun c wx => ∃ (k : Nat) (xs : List Value), c = .int .i64 k ∧ k ≤ N ∧ wx.ownsRow wr.heap.size 25 1 (.slice (some ⟨g0, 0, none⟩) N cap0) N xs ∧ OffEq g0 wM wx ∧ Below wr.heap.size wM wx) (fun c _ => N - (intOf c).toNat)
                  case atStart => exact ⟨0, _, rfl, Nat.zero_le _, O0M.out, OffEq.refl _ _, Below.refl _ _⟩
                  case round =>
                    obtain ⟨k, xs, rfl, hk, ho, hoff, hbel⟩ := hrel
                    have HO5 := hid_mk ho
                    have HF5 := hid_mk hoff
                    have HB5 := hid_mk hbel
                    clear ho hoff hbel
                    by_cases hlt5 : k < N
                    · obtain ⟨x, hx⟩ := getOf (l := xs) (n := N) (by have := HO5.out.1; omega) hlt5
                      have hcell : wr.cell? ⟨g0, k, none⟩ = some x := (HO5.out.cellAt k (by omega)).trans hx
                      have hfr := HO5.out.frozenAt k
                      clear hx
                      go_wp2
                      go_roundw
                      case rel => exact ⟨k + 1, _, by go_num, by omega, (HO5.out.stored k _).1, HF5.out.setCell k _, HB5.out.setCell hg0 _⟩
                      case measure => simp [intOf]; omega
                    · have PIF := hid_mk (PIc.out.off' E12M.out HF5.out (by omega))
                      have PNF := hid_mk (PNc.out.off' E12M.out HF5.out (by omega))
                      have P1F := hid_mk (P1M.out.off HF5.out (fun b o e => by
                        obtain ⟨rfl, rfl⟩ : g1 = b ∧ 0 = o := by simpa using e
                        omega))
                      have LMF := hid_mk (LM.out.off HF5.out (fun a e => by
                        obtain rfl : mk = a := by simpa using e
                        have := HMK.out; omega))
                      have hmg : w12.heap.size ≤ mk.block := by have := HMK.out; omega
                      have LIF : Hid (∀ p ∈ li, LeafOk wr p ∧ p ≠ some mk) := fun p hp => ⟨(LIc.out p hp).off' E12M.out HF5.out (by omega), (LIc.out p hp).ne hmg⟩
                      have LNF : Hid (∀ p ∈ ln, LeafOk wr p ∧ p ≠ some mk) := fun p hp => ⟨(LNc.out p hp).off' E12M.out HF5.out (by omega), (LNc.out p hp).ne hmg⟩
                      have L1F : Hid (∀ p ∈ Wl ++ [some u], LeafOk wr p ∧ p ≠ some mk) := fun p hp => by
                        rw [← HWl.out] at hp
                        simp only [List.mem_append, List.mem_singleton] at hp
                        rcases hp with ((hp | hp) | hp) | hp
                        · exact LIF.out p hp
                        · subst hp; exact ⟨LRc.out.off' E12M.out HF5.out (by omega), LRc.out.ne hmg⟩
                        · exact LNF.out p hp
                        · subst hp; exact ⟨LUc.out.off' E12M.out HF5.out (by omega), LUc.out.ne hmg⟩
                      have BF : Hid (Below w.heap.size w wr) := (ext Ewc.out E12M.out).trans (HB5.out.mono (by have := Ewc.out.size; omega))
                      go_wp2_with fail
                      refine (holds_any _ n0 n0 li mk NI.out (by omega) _ PIF.out LMF.out LIF.out).mono ?_
                      rintro e w' ⟨rfl, hw⟩
                      subst w'
                      go_wp2_with fail
                      refine (holds_any _ n1 n1 ln mk NN.out (by omega) _ PNF.out LMF.out LNF.out).mono ?_
                      rintro e w' ⟨rfl, hw⟩
                      subst w'
                      go_wp2_with fail
                      refine (holds_any _ (N + 1) cap1 (Wl ++ [some u]) mk HL1.out (by omega) _ P1F.out LMF.out L1F.out).mono ?_
                      rintro e w' ⟨rfl, hw⟩
                      subst w'
                      go_wp2
                      go_ret
                      exact ⟨rfl, BF.out⟩
end Go.Proofs.Qxb6630402a
