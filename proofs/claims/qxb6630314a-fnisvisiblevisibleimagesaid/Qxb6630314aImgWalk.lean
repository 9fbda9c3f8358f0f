/-
  THE WALK OF FnIsVisibleVisibleImage: it returns true, whatever the input.
-/
import Derived.Test.Qxb6630314aInsWalk
import Derived.Deep.OwnRows
import Derived.Deep.RegionWith
namespace Go.Proofs.Qxb6630314a
open Go.RowKit

theorem Try.info5 : (Try.prog.info? 5).map (fun i => (i.zero, i.size, i.bytes)) = some (some (.int .u8 0), 1, 1) := by kernel_rfl

/-- 'string(v)' of a row of visible bytes. -/
theorem conv_row (w : World) (B n : Nat) (f : Nat → Int) (hrow : w.rowIs B 5 n (fun j => .int .u8 (f j))) (hf : ∀ j, j < n → 33 ≤ f j ∧ f j ≤ 126) :
    ∃ vs : ByteArray, vs.size = n ∧ visL vs.data.toList = true ∧ (convert 23 9 (.slice (some ⟨B, 0, none⟩) n n)).run Try.prog w = .ok (.string vs) w := by
  refine ⟨strOfNums ((List.range n).map f), by rw [strOfNums_size]; simp, ?_, ?_⟩
  · rw [strOfNums_data, visL, List.all_eq_true]
    intro c hc
    simp only [List.map_map, List.mem_map, List.mem_range, Function.comp_apply] at hc
    obtain ⟨j, hj, rfl⟩ := hc
    have := hf j hj
    have e : ((UInt8.ofNat (f j).toNat).toNat : Int) = f j := by simp; omega
    rw [e]; simp only [visI, decide_eq_true_eq]; omega
  · exact run_convert_bytes_arg (P := Try.prog) w 23 5 Try.underlying23 Try.underlying5 B 0 n n ((List.range n).map f) (by simp) (fun i hi => by
      have h := hrow.cell hi
      rw [Nat.zero_add, h]
      simp [List.getD, hi]) 9 Try.underlying9

theorem ite_val (j k : Nat) (a b : Int) : (if j = k then Value.int .u8 a else Value.int .u8 b) = Value.int .u8 (if j = k then a else b) := by split <;> rfl
theorem gr2 {w w' : World} (h : Grown w w') {n : Nat} : Grown w (w'.drewN n) := h

set_option maxHeartbeats 4000000 in
theorem img_main (s : ByteArray) (i : Nat) (hs : s.size ≤ 1048576) (hi : i ≤ s.size) (w : World) :
    Calls Try.prog 4 #[.string s, .int .i64 i] w fun e w' => e = .returned (.bool true) ∧ Grown w w' := by
  have hi0 : (0 : Int) ≤ (i : Int) := by omega
  have hi1 : (i : Int) ≤ (s.size : Int) := by omega
  have hmk := run_make_row' (P := Try.prog) 23 5 (.int .u8 0) 1 Try.underlying23 Try.info5 rfl .i64 .i64 s.size (by omega) (by omega)
  go_enter Try.func4, Try.ntmps4
  go_wp2_with (first | (go_at_call 7; go_in) | fail)
  clear hmk
  go_loopw [6] (fun c wr => ∃ (k : Nat) (f : Nat → Int), k ≤ s.size ∧ c = .int .i64 k ∧ wr.rowIs w.heap.size 5 s.size (fun j => .int .u8 (f j)) ∧ (∀ j, j < k → 33 ≤ f j ∧ f j ≤ 126) ∧ Grown w wr) (fun c _ => s.size - (intOf c).toNat)
  case atStart => exact ⟨0, fun _ => 0, Nat.zero_le _, rfl, World.rowIs_made _ _ _ _, fun j hj => absurd hj (by omega), Grown.alloc (Grown.refl _) _ _⟩
  case round =>
    obtain ⟨k, f, hk, rfl, hrow, hf, hgr⟩ := hrel
    have HF := hid_mk hf
    have HR := hid_mk hrow
    have HG := hid_mk hgr
    clear hf hrow hgr
    by_cases hlt : k < s.size
    · have hcell := HR.out.cell hlt
      have hfr := HR.out.frozen k
      go_wp2
      go_roundw
      case rel =>
        refine ⟨k + 1, fun j => if j = k then 33 + (s[k].toNat : Int) % 94 else f j, by omega, by go_num, (HR.out.set k _).congr (fun j _ => ?_), fun j hj => ?_, Grown.setCell HG.out (Nat.le_refl _) _⟩
        · exact ite_val j k _ _
        · by_cases e : j = k
          · simp only [e, if_true]; omega
          · simp only [e, if_false]; exact HF.out j (by omega)
      case measure => simp [intOf]; omega
    · have ek : k = s.size := by omega
      obtain ⟨vs, hvz, hvv, hconv⟩ := conv_row wr w.heap.size s.size f HR.out (fun j hj => HF.out j (by omega))
      clear ek
      have HV : Hid (visS vs = decide (0 < s.size)) := by unfold visS Hid; rw [hvv, hvz]; rfl
      have hv1 : vs.size ≤ 1048576 := by omega
      have HZ := hid_mk hvz
      have KV := hid_mk hvv
      clear hvv hvz
      by_cases h0 : s.size = 0
      · have HT : Hid (visS (s.extract 0 i ++ vs ++ s.extract i s.size) = false) := by
          unfold visS Hid
          have : (s.extract 0 i ++ vs ++ s.extract i s.size).size = 0 := by simp only [ByteArray.size_append, ByteArray.size_extract]; have := HZ.out; omega
          rw [this]; simp
        have hem := isEmpty_true s h0
        have HV0 : Hid (visS vs = false) := by unfold Hid; rw [HV.out, h0]; rfl
        have h00 : s.size ≤ 0 := by omega
        clear h0
        go_wp2_with fail
        refine (vis_is _ _ HV0.out (sz_ok vs hv1) _).mono ?_
        rintro e w' ⟨rfl, rfl⟩
        go_wp2_with fail
        go_quiet ((go_at_call 6; exact Calls.quiet_of_same (vis_is _ _ HT.out (sz_put s vs i hs hv1) _)))
        go_wp2
        go_ret
        exact ⟨rfl, gr2 HG.out⟩
      · have hpos : 0 < s.size := by omega
        have hem := isEmpty_false s hpos
        have HT := hid_mk (visS_put s vs i (by have := HZ.out; omega))
        have HS := hid_mk (visS_pos s hpos)
        have HV1 : Hid (visS vs = true) := by unfold Hid; rw [HV.out]; simp [hpos]
        have HT2 : Hid (visS (s.extract 0 i ++ vs ++ s.extract i s.size) = visL s.data.toList) := by unfold Hid; rw [HT.out, KV.out]; simp
        generalize visL s.data.toList = P at HT2 HS
        clear HT h0
        cases P
        all_goals
          go_wp2_with fail
          refine (vis_is _ _ HV1.out (sz_ok vs hv1) _).mono ?_
          rintro e w' ⟨rfl, rfl⟩
          go_wp2_with fail
          go_quiet (first | (go_at_call_of 6 vs; exact Calls.quiet_of_same (vis_is _ _ HT2.out (sz_put s vs i hs hv1) _)) | (go_at_call 6; exact Calls.quiet_of_same (vis_is _ _ HS.out (sz_ok s hs) _)))
          go_wp2
          go_ret
          exact ⟨rfl, gr2 HG.out⟩
end Go.Proofs.Qxb6630314a
