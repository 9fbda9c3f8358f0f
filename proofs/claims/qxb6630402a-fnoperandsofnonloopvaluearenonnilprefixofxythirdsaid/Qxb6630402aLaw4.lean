/-
  THE WALK OF FnOperandsOfNonLoopValueAreNonNilPrefixOfXYThird: it returns true, whatever the input.
-/
import Derived.Test.Qxb6630402aOps
namespace Go.Proofs.Qxb6630402a
open Go.RowKit

theorem cell_keep {w : World} {a : Addr} {v : Value} {o : Obj} (h : w.cell? a = some v) : (w.alloc o).cell? a = some v :=
  (((Below.refl w.heap.size w).alloc (Nat.le_refl _) o).cell (cell_lt h)).trans h
theorem cell_new {w : World} {n : Nat} {c : Array Value} {t : TypeId} {k : Nat} {v : Value} (hn : n = w.heap.size) (h : c[k]? = some v) : (w.alloc (.cells c t)).cell? ⟨n, k, none⟩ = some v := by
  subst hn
  have e : (w.alloc (.cells c t)).heap[w.heap.size]? = some (.cells c t) := by show (w.heap.push _)[_]? = _; simp
  simp only [World.cell?, e]
  exact h
theorem cell3 (W : World) (A B : Obj) (px py pt : Option Addr) (k : Nat) (p : Option Addr) (h : ([px, py, pt] : List (Option Addr))[k]? = some p) :
    (((W.alloc A).alloc B).alloc (.cells #[.pointer px, .pointer py, .pointer pt] 25)).cell? ⟨W.heap.size + 1 + 1, k, none⟩ = some (.pointer p) := by
  refine cell_new (by simp) ?_
  match k, h with
  | 0, h =>
    have h' : px = p := by simpa using h
    subst h'; rfl
  | 1, h =>
    have h' : py = p := by simpa using h
    subst h'; rfl
  | 2, h =>
    have h' : pt = p := by simpa using h
    subst h'; rfl
theorem cell3' (W : World) (X A B : Obj) (px py pt : Option Addr) (k : Nat) (p : Option Addr) (h : ([px, py, pt] : List (Option Addr))[k]? = some p) :
    ((((W.alloc X).alloc A).alloc B).alloc (.cells #[.pointer px, .pointer py, .pointer pt] 25)).cell? ⟨W.heap.size + 1 + 1 + 1, k, none⟩ = some (.pointer p) := by
  have := cell3 (W.alloc X) A B px py pt k p h
  have e : (W.alloc X).heap.size = W.heap.size + 1 := by simp
  rwa [e] at this

set_option maxHeartbeats 8000000 in
theorem law4 (op op2 : Int) (sx sy sz sm sl : Bool) (h1 : (op == 35) = false) (h2 : (op2 == 35) = false) (w : World) :
    Calls Try.prog 4 #[.int .i64 op, .int .i64 op2, .bool sx, .bool sy, .bool sz, .bool sm, .bool sl] w fun e w' => e = .returned (.bool true) ∧ Below w.heap.size w w' := by
  go_enter Try.func4, Try.ntmps4
  go_wp2_with fail
  refine (leafIf_any _ _ _).mono ?_
  rintro e w1 ⟨px, rfl, _, _, b1⟩
  have B1 := hid_mk b1
  clear b1
  go_wp2_with fail
  refine (leafIf_any _ _ _).mono ?_
  rintro e w2 ⟨py, rfl, _, _, b2⟩
  have B2 := hid_mk (ext B1.out b2)
  clear b2
  go_wp2_with fail
  refine (leafIf_any _ _ _).mono ?_
  rintro e w3 ⟨pz, rfl, _, _, b3⟩
  have B3 := hid_mk (ext B2.out b3)
  clear b3
  go_wp2_with fail
  refine (leafIf_any _ _ _).mono ?_
  rintro e w4 ⟨pm, rfl, _, _, b4⟩
  have B4 := hid_mk (ext B3.out b4)
  clear b4
  cases sl with
  | false =>
    cases hpz : pz.isNone with
    | true =>
      have HT : Hid (pm = if pz.isNone then pm else pz) := by unfold Hid; rw [hpz]; rfl
      go_wp2_with fail
      go_loop [24] (fun c => ∃ k : Nat, k ≤ 3 ∧ c = .int .i64 k ∧ ∀ i, i < k → ∃ a, ([px, py, pm] : List (Option Addr))[i]? = some (some a)) (fun c => 3 - (intOf c).toNat)
      case atStart => exact ⟨0, by omega, rfl, fun i hi => absurd hi (by omega)⟩
      case round =>
        obtain ⟨k, hk, rfl, hpre⟩ := hrel
        have HP := hid_mk hpre
        clear hpre
        by_cases hgo : ∃ a, ([px, py, pm] : List (Option Addr))[k]? = some (some a)
        · obtain ⟨a, ha⟩ := hgo
          have hk3 : k < 3 := by have := lt_len ha; simpa using this
          have hc := fun A B => cell3 w4 A B px py pm k (some a) ha
          have HA := hid_mk ha
          clear ha
          go_wp2
          go_round
          case rel =>
            refine ⟨k + 1, by omega, by go_num, fun i hi => ?_⟩
            by_cases e : i = k
            · subst e; exact ⟨a, HA.out⟩
            · exact HP.out i (by omega)
          case measure => simp [intOf]; omega
        · have HE : Hid (k = 3 ∨ ([px, py, pm] : List (Option Addr))[k]? = some none) := by
            by_cases e : k = 3
            · exact .inl e
            · refine .inr ?_
              obtain ⟨q, hq⟩ := getOf (l := ([px, py, pm] : List (Option Addr))) (n := 3) rfl (show k < 3 by omega)
              cases q with
              | none => exact hq
              | some a => exact absurd ⟨a, hq⟩ hgo
          have HL := hid_mk (ops_front px py pm pz pm HT.out k hk HP.out HE.out)
          have hlen : (([px, py, pm] : List (Option Addr)).take k).length = k := by simp; omega
          have HLen := hid_mk hlen
          clear hgo hlen
          by_cases hk3 : k < 3
          case' pos =>
            have hn := (HE.out.resolve_left (by omega))
            have hc := fun A B => cell3 w4 A B px py pm k none hn
            clear hn
          all_goals
            go_wp2_with fail
            refine (opn_any (w4.heap.size) op h1 px py pm pz _ (by exact cell_keep (cell_keep (cell_new (by simp) rfl))) (by exact cell_keep (cell_keep (cell_new (by simp) rfl))) (by exact cell_keep (cell_keep (cell_new (by simp) rfl))) (by exact cell_keep (cell_keep (cell_new (by simp) rfl))) (by exact cell_keep (cell_keep (cell_new (by simp) rfl)))).mono ?_
            rintro e w10 ⟨ar, cr, rfl, hr, b10⟩
            rw [HL.out, HLen.out]
            rw [HL.out] at hr
            have R10 := hid_mk hr
            have D0 : Hid (w10.cell? ⟨w4.heap.size + 1, 0, none⟩ = some (.int .i64 op2)) := (b10.cell (by simp)).trans (cell_keep (cell_new (by simp) rfl))
            have D1 : Hid (w10.cell? ⟨w4.heap.size + 1, 1, none⟩ = some (.pointer px)) := (b10.cell (by simp)).trans (cell_keep (cell_new (by simp) rfl))
            have D2 : Hid (w10.cell? ⟨w4.heap.size + 1, 2, none⟩ = some (.pointer py)) := (b10.cell (by simp)).trans (cell_keep (cell_new (by simp) rfl))
            have D3 : Hid (w10.cell? ⟨w4.heap.size + 1, 3, none⟩ = some (.pointer pm)) := (b10.cell (by simp)).trans (cell_keep (cell_new (by simp) rfl))
            have D4 : Hid (w10.cell? ⟨w4.heap.size + 1, 4, none⟩ = some (.pointer pz)) := (b10.cell (by simp)).trans (cell_keep (cell_new (by simp) rfl))
            have SL : Hid (Ptrs w10 (some ⟨w4.heap.size + 1 + 1, 0, none⟩) (([px, py, pm] : List (Option Addr)).take k)) := by
              refine Ptrs.below (fun i q hq => ⟨_, _, rfl, ?_⟩) b10
              have hi : i < k := by have := lt_len hq; rw [HLen.out] at this; exact this
              rw [List.getElem?_take_of_lt hi] at hq
              rw [Nat.zero_add]
              exact cell3 w4 _ _ px py pm i q hq
            have B10 : Hid (Below w.heap.size w w10) := ext (((B4.out.alloc B4.out.size _).alloc (by have := B4.out.size; simp; omega) _).alloc (by have := B4.out.size; simp; omega) _) b10
            clear hr b10
            go_wp2_with fail
            refine (opn_any (w4.heap.size + 1) op2 h2 px py pm pz w10 D0.out D1.out D2.out D3.out D4.out).mono ?_
            rintro e w11 ⟨ass, css, rfl, hs, b11⟩
            rw [HL.out, HLen.out]
            rw [HL.out] at hs
            have R11 := hid_mk (R10.out.below b11)
            have S11 := hid_mk hs
            have SL11 := hid_mk (SL.out.below b11)
            have B11 := hid_mk (ext B10.out b11)
            clear hs b11
            go_wp2_with fail
            refine (same_any ar _ k k cr 3 _ HLen.out HLen.out (by omega) w11 R11.out SL11.out).mono ?_
            rintro e w' ⟨rfl, q1, hw⟩
            subst w'
            go_wp2_with fail
            refine (same_any ass ar k k css cr _ HLen.out HLen.out (by omega) _ (by exact S11.out.drewN _) (by exact R11.out.drewN _)).mono ?_
            rintro e w' ⟨rfl, q2, hw⟩
            subst w'
            go_wp2
            go_ret
            exact ⟨rfl, below_drewN' B11.out _⟩
    | false =>
      have HT : Hid (pz = if pz.isNone then pm else pz) := by unfold Hid; rw [hpz]; rfl
      go_wp2_with fail
      go_loop [24] (fun c => ∃ k : Nat, k ≤ 3 ∧ c = .int .i64 k ∧ ∀ i, i < k → ∃ a, ([px, py, pz] : List (Option Addr))[i]? = some (some a)) (fun c => 3 - (intOf c).toNat)
      case atStart => exact ⟨0, by omega, rfl, fun i hi => absurd hi (by omega)⟩
      case round =>
        obtain ⟨k, hk, rfl, hpre⟩ := hrel
        have HP := hid_mk hpre
        clear hpre
        by_cases hgo : ∃ a, ([px, py, pz] : List (Option Addr))[k]? = some (some a)
        · obtain ⟨a, ha⟩ := hgo
          have hk3 : k < 3 := by have := lt_len ha; simpa using this
          have hc := fun A B => cell3 w4 A B px py pz k (some a) ha
          have HA := hid_mk ha
          clear ha
          go_wp2
          go_round
          case rel =>
            refine ⟨k + 1, by omega, by go_num, fun i hi => ?_⟩
            by_cases e : i = k
            · subst e; exact ⟨a, HA.out⟩
            · exact HP.out i (by omega)
          case measure => simp [intOf]; omega
        · have HE : Hid (k = 3 ∨ ([px, py, pz] : List (Option Addr))[k]? = some none) := by
            by_cases e : k = 3
            · exact .inl e
            · refine .inr ?_
              obtain ⟨q, hq⟩ := getOf (l := ([px, py, pz] : List (Option Addr))) (n := 3) rfl (show k < 3 by omega)
              cases q with
              | none => exact hq
              | some a => exact absurd ⟨a, hq⟩ hgo
          have HL := hid_mk (ops_front px py pm pz pz HT.out k hk HP.out HE.out)
          have hlen : (([px, py, pz] : List (Option Addr)).take k).length = k := by simp; omega
          have HLen := hid_mk hlen
          clear hgo hlen
          by_cases hk3 : k < 3
          case' pos =>
            have hn := (HE.out.resolve_left (by omega))
            have hc := fun A B => cell3 w4 A B px py pz k none hn
            clear hn
          all_goals
            go_wp2_with fail
            refine (opn_any (w4.heap.size) op h1 px py pm pz _ (by exact cell_keep (cell_keep (cell_new (by simp) rfl))) (by exact cell_keep (cell_keep (cell_new (by simp) rfl))) (by exact cell_keep (cell_keep (cell_new (by simp) rfl))) (by exact cell_keep (cell_keep (cell_new (by simp) rfl))) (by exact cell_keep (cell_keep (cell_new (by simp) rfl)))).mono ?_
            rintro e w10 ⟨ar, cr, rfl, hr, b10⟩
            rw [HL.out, HLen.out]
            rw [HL.out] at hr
            have R10 := hid_mk hr
            have D0 : Hid (w10.cell? ⟨w4.heap.size + 1, 0, none⟩ = some (.int .i64 op2)) := (b10.cell (by simp)).trans (cell_keep (cell_new (by simp) rfl))
            have D1 : Hid (w10.cell? ⟨w4.heap.size + 1, 1, none⟩ = some (.pointer px)) := (b10.cell (by simp)).trans (cell_keep (cell_new (by simp) rfl))
            have D2 : Hid (w10.cell? ⟨w4.heap.size + 1, 2, none⟩ = some (.pointer py)) := (b10.cell (by simp)).trans (cell_keep (cell_new (by simp) rfl))
            have D3 : Hid (w10.cell? ⟨w4.heap.size + 1, 3, none⟩ = some (.pointer pm)) := (b10.cell (by simp)).trans (cell_keep (cell_new (by simp) rfl))
            have D4 : Hid (w10.cell? ⟨w4.heap.size + 1, 4, none⟩ = some (.pointer pz)) := (b10.cell (by simp)).trans (cell_keep (cell_new (by simp) rfl))
            have SL : Hid (Ptrs w10 (some ⟨w4.heap.size + 1 + 1, 0, none⟩) (([px, py, pz] : List (Option Addr)).take k)) := by
              refine Ptrs.below (fun i q hq => ⟨_, _, rfl, ?_⟩) b10
              have hi : i < k := by have := lt_len hq; rw [HLen.out] at this; exact this
              rw [List.getElem?_take_of_lt hi] at hq
              rw [Nat.zero_add]
              exact cell3 w4 _ _ px py pz i q hq
            have B10 : Hid (Below w.heap.size w w10) := ext (((B4.out.alloc B4.out.size _).alloc (by have := B4.out.size; simp; omega) _).alloc (by have := B4.out.size; simp; omega) _) b10
            clear hr b10
            go_wp2_with fail
            refine (opn_any (w4.heap.size + 1) op2 h2 px py pm pz w10 D0.out D1.out D2.out D3.out D4.out).mono ?_
            rintro e w11 ⟨ass, css, rfl, hs, b11⟩
            rw [HL.out, HLen.out]
            rw [HL.out] at hs
            have R11 := hid_mk (R10.out.below b11)
            have S11 := hid_mk hs
            have SL11 := hid_mk (SL.out.below b11)
            have B11 := hid_mk (ext B10.out b11)
            clear hs b11
            go_wp2_with fail
            refine (same_any ar _ k k cr 3 _ HLen.out HLen.out (by omega) w11 R11.out SL11.out).mono ?_
            rintro e w' ⟨rfl, q1, hw⟩
            subst w'
            go_wp2_with fail
            refine (same_any ass ar k k css cr _ HLen.out HLen.out (by omega) _ (by exact S11.out.drewN _) (by exact R11.out.drewN _)).mono ?_
            rintro e w' ⟨rfl, q2, hw⟩
            subst w'
            go_wp2
            go_ret
            exact ⟨rfl, below_drewN' B11.out _⟩
  | true =>
    go_wp2_with fail
    refine (leaf_any _ _).mono ?_
    rintro e w5 ⟨p5, rfl, _, _, b5⟩
    have B5 := hid_mk (ext B4.out b5)
    clear b5
    go_wp2_with fail
    refine (leaf_any _ _).mono ?_
    rintro e w6 ⟨p6, rfl, _, _, b6⟩
    have B6 := hid_mk (ext (B5.out.alloc B5.out.size _) b6)
    clear b6
    go_wp2_with fail
    refine (leaf_any _ _).mono ?_
    rintro e w7 ⟨p7, rfl, _, _, b7⟩
    have B7 := hid_mk (ext B6.out b7)
    clear b7
    go_wp2_with fail
    refine (leaf_any _ _).mono ?_
    rintro e w8 ⟨p8, rfl, _, _, b8⟩
    have B8 := hid_mk (ext (B7.out.alloc B7.out.size _) b8)
    clear b8
    cases hpz : pz.isNone with
    | true =>
      have HT : Hid (pm = if pz.isNone then pm else pz) := by unfold Hid; rw [hpz]; rfl
      go_wp2_with fail
      go_loop [24] (fun c => ∃ k : Nat, k ≤ 3 ∧ c = .int .i64 k ∧ ∀ i, i < k → ∃ a, ([px, py, pm] : List (Option Addr))[i]? = some (some a)) (fun c => 3 - (intOf c).toNat)
      case atStart => exact ⟨0, by omega, rfl, fun i hi => absurd hi (by omega)⟩
      case round =>
        obtain ⟨k, hk, rfl, hpre⟩ := hrel
        have HP := hid_mk hpre
        clear hpre
        by_cases hgo : ∃ a, ([px, py, pm] : List (Option Addr))[k]? = some (some a)
        · obtain ⟨a, ha⟩ := hgo
          have hk3 : k < 3 := by have := lt_len ha; simpa using this
          have hc := fun X A B => cell3' w8 X A B px py pm k (some a) ha
          have HA := hid_mk ha
          clear ha
          go_wp2
          go_round
          case rel =>
            refine ⟨k + 1, by omega, by go_num, fun i hi => ?_⟩
            by_cases e : i = k
            · subst e; exact ⟨a, HA.out⟩
            · exact HP.out i (by omega)
          case measure => simp [intOf]; omega
        · have HE : Hid (k = 3 ∨ ([px, py, pm] : List (Option Addr))[k]? = some none) := by
            by_cases e : k = 3
            · exact .inl e
            · refine .inr ?_
              obtain ⟨q, hq⟩ := getOf (l := ([px, py, pm] : List (Option Addr))) (n := 3) rfl (show k < 3 by omega)
              cases q with
              | none => exact hq
              | some a => exact absurd ⟨a, hq⟩ hgo
          have HL := hid_mk (ops_front px py pm pz pm HT.out k hk HP.out HE.out)
          have hlen : (([px, py, pm] : List (Option Addr)).take k).length = k := by simp; omega
          have HLen := hid_mk hlen
          clear hgo hlen
          by_cases hk3 : k < 3
          case' pos =>
            have hn := (HE.out.resolve_left (by omega))
            have hc := fun X A B => cell3' w8 X A B px py pm k none hn
            clear hn
          all_goals
            go_wp2_with fail
            refine (opn_any (w8.heap.size + 1) op h1 px py pm pz _ (by exact cell_keep (cell_keep (cell_new (by simp) rfl))) (by exact cell_keep (cell_keep (cell_new (by simp) rfl))) (by exact cell_keep (cell_keep (cell_new (by simp) rfl))) (by exact cell_keep (cell_keep (cell_new (by simp) rfl))) (by exact cell_keep (cell_keep (cell_new (by simp) rfl)))).mono ?_
            rintro e w10 ⟨ar, cr, rfl, hr, b10⟩
            rw [HL.out, HLen.out]
            rw [HL.out] at hr
            have R10 := hid_mk hr
            have D0 : Hid (w10.cell? ⟨w8.heap.size + 1 + 1, 0, none⟩ = some (.int .i64 op2)) := (b10.cell (by simp)).trans (cell_keep (cell_new (by simp) rfl))
            have D1 : Hid (w10.cell? ⟨w8.heap.size + 1 + 1, 1, none⟩ = some (.pointer px)) := (b10.cell (by simp)).trans (cell_keep (cell_new (by simp) rfl))
            have D2 : Hid (w10.cell? ⟨w8.heap.size + 1 + 1, 2, none⟩ = some (.pointer py)) := (b10.cell (by simp)).trans (cell_keep (cell_new (by simp) rfl))
            have D3 : Hid (w10.cell? ⟨w8.heap.size + 1 + 1, 3, none⟩ = some (.pointer pm)) := (b10.cell (by simp)).trans (cell_keep (cell_new (by simp) rfl))
            have D4 : Hid (w10.cell? ⟨w8.heap.size + 1 + 1, 4, none⟩ = some (.pointer pz)) := (b10.cell (by simp)).trans (cell_keep (cell_new (by simp) rfl))
            have SL : Hid (Ptrs w10 (some ⟨w8.heap.size + 1 + 1 + 1, 0, none⟩) (([px, py, pm] : List (Option Addr)).take k)) := by
              refine Ptrs.below (fun i q hq => ⟨_, _, rfl, ?_⟩) b10
              have hi : i < k := by have := lt_len hq; rw [HLen.out] at this; exact this
              rw [List.getElem?_take_of_lt hi] at hq
              rw [Nat.zero_add]
              exact cell3' w8 _ _ _ px py pm i q hq
            have B10 : Hid (Below w.heap.size w w10) := ext ((((B8.out.alloc B8.out.size _).alloc (by have := B8.out.size; simp; omega) _).alloc (by have := B8.out.size; simp; omega) _).alloc (by have := B8.out.size; simp; omega) _) b10
            clear hr b10
            go_wp2_with fail
            refine (opn_any (w8.heap.size + 1 + 1) op2 h2 px py pm pz w10 D0.out D1.out D2.out D3.out D4.out).mono ?_
            rintro e w11 ⟨ass, css, rfl, hs, b11⟩
            rw [HL.out, HLen.out]
            rw [HL.out] at hs
            have R11 := hid_mk (R10.out.below b11)
            have S11 := hid_mk hs
            have SL11 := hid_mk (SL.out.below b11)
            have B11 := hid_mk (ext B10.out b11)
            clear hs b11
            go_wp2_with fail
            refine (same_any ar _ k k cr 3 _ HLen.out HLen.out (by omega) w11 R11.out SL11.out).mono ?_
            rintro e w' ⟨rfl, q1, hw⟩
            subst w'
            go_wp2_with fail
            refine (same_any ass ar k k css cr _ HLen.out HLen.out (by omega) _ (by exact S11.out.drewN _) (by exact R11.out.drewN _)).mono ?_
            rintro e w' ⟨rfl, q2, hw⟩
            subst w'
            go_wp2
            go_ret
            exact ⟨rfl, below_drewN' B11.out _⟩
    | false =>
      have HT : Hid (pz = if pz.isNone then pm else pz) := by unfold Hid; rw [hpz]; rfl
      go_wp2_with fail
      go_loop [24] (fun c => ∃ k : Nat, k ≤ 3 ∧ c = .int .i64 k ∧ ∀ i, i < k → ∃ a, ([px, py, pz] : List (Option Addr))[i]? = some (some a)) (fun c => 3 - (intOf c).toNat)
      case atStart => exact ⟨0, by omega, rfl, fun i hi => absurd hi (by omega)⟩
      case round =>
        obtain ⟨k, hk, rfl, hpre⟩ := hrel
        have HP := hid_mk hpre
        clear hpre
        by_cases hgo : ∃ a, ([px, py, pz] : List (Option Addr))[k]? = some (some a)
        · obtain ⟨a, ha⟩ := hgo
          have hk3 : k < 3 := by have := lt_len ha; simpa using this
          have hc := fun X A B => cell3' w8 X A B px py pz k (some a) ha
          have HA := hid_mk ha
          clear ha
          go_wp2
          go_round
          case rel =>
            refine ⟨k + 1, by omega, by go_num, fun i hi => ?_⟩
            by_cases e : i = k
            · subst e; exact ⟨a, HA.out⟩
            · exact HP.out i (by omega)
          case measure => simp [intOf]; omega
        · have HE : Hid (k = 3 ∨ ([px, py, pz] : List (Option Addr))[k]? = some none) := by
            by_cases e : k = 3
            · exact .inl e
            · refine .inr ?_
              obtain ⟨q, hq⟩ := getOf (l := ([px, py, pz] : List (Option Addr))) (n := 3) rfl (show k < 3 by omega)
              cases q with
              | none => exact hq
              | some a => exact absurd ⟨a, hq⟩ hgo
          have HL := hid_mk (ops_front px py pm pz pz HT.out k hk HP.out HE.out)
          have hlen : (([px, py, pz] : List (Option Addr)).take k).length = k := by simp; omega
          have HLen := hid_mk hlen
          clear hgo hlen
          by_cases hk3 : k < 3
          case' pos =>
            have hn := (HE.out.resolve_left (by omega))
            have hc := fun X A B => cell3' w8 X A B px py pz k none hn
            clear hn
          all_goals
            go_wp2_with fail
            refine (opn_any (w8.heap.size + 1) op h1 px py pm pz _ (by exact cell_keep (cell_keep (cell_new (by simp) rfl))) (by exact cell_keep (cell_keep (cell_new (by simp) rfl))) (by exact cell_keep (cell_keep (cell_new (by simp) rfl))) (by exact cell_keep (cell_keep (cell_new (by simp) rfl))) (by exact cell_keep (cell_keep (cell_new (by simp) rfl)))).mono ?_
            rintro e w10 ⟨ar, cr, rfl, hr, b10⟩
            rw [HL.out, HLen.out]
            rw [HL.out] at hr
            have R10 := hid_mk hr
            have D0 : Hid (w10.cell? ⟨w8.heap.size + 1 + 1, 0, none⟩ = some (.int .i64 op2)) := (b10.cell (by simp)).trans (cell_keep (cell_new (by simp) rfl))
            have D1 : Hid (w10.cell? ⟨w8.heap.size + 1 + 1, 1, none⟩ = some (.pointer px)) := (b10.cell (by simp)).trans (cell_keep (cell_new (by simp) rfl))
            have D2 : Hid (w10.cell? ⟨w8.heap.size + 1 + 1, 2, none⟩ = some (.pointer py)) := (b10.cell (by simp)).trans (cell_keep (cell_new (by simp) rfl))
            have D3 : Hid (w10.cell? ⟨w8.heap.size + 1 + 1, 3, none⟩ = some (.pointer pm)) := (b10.cell (by simp)).trans (cell_keep (cell_new (by simp) rfl))
            have D4 : Hid (w10.cell? ⟨w8.heap.size + 1 + 1, 4, none⟩ = some (.pointer pz)) := (b10.cell (by simp)).trans (cell_keep (cell_new (by simp) rfl))
            have SL : Hid (Ptrs w10 (some ⟨w8.heap.size + 1 + 1 + 1, 0, none⟩) (([px, py, pz] : List (Option Addr)).take k)) := by
              refine Ptrs.below (fun i q hq => ⟨_, _, rfl, ?_⟩) b10
              have hi : i < k := by have := lt_len hq; rw [HLen.out] at this; exact this
              rw [List.getElem?_take_of_lt hi] at hq
              rw [Nat.zero_add]
              exact cell3' w8 _ _ _ px py pz i q hq
            have B10 : Hid (Below w.heap.size w w10) := ext ((((B8.out.alloc B8.out.size _).alloc (by have := B8.out.size; simp; omega) _).alloc (by have := B8.out.size; simp; omega) _).alloc (by have := B8.out.size; simp; omega) _) b10
            clear hr b10
            go_wp2_with fail
            refine (opn_any (w8.heap.size + 1 + 1) op2 h2 px py pm pz w10 D0.out D1.out D2.out D3.out D4.out).mono ?_
            rintro e w11 ⟨ass, css, rfl, hs, b11⟩
            rw [HL.out, HLen.out]
            rw [HL.out] at hs
            have R11 := hid_mk (R10.out.below b11)
            have S11 := hid_mk hs
            have SL11 := hid_mk (SL.out.below b11)
            have B11 := hid_mk (ext B10.out b11)
            clear hs b11
            go_wp2_with fail
            refine (same_any ar _ k k cr 3 _ HLen.out HLen.out (by omega) w11 R11.out SL11.out).mono ?_
            rintro e w' ⟨rfl, q1, hw⟩
            subst w'
            go_wp2_with fail
            refine (same_any ass ar k k css cr _ HLen.out HLen.out (by omega) _ (by exact S11.out.drewN _) (by exact R11.out.drewN _)).mono ?_
            rintro e w' ⟨rfl, q2, hw⟩
            subst w'
            go_wp2
            go_ret
            exact ⟨rfl, below_drewN' B11.out _⟩
end Go.Proofs.Qxb6630402a
