/-
  THE WALKS OF THIS SEAT's SHARED FUNCTIONS: each computes a plain function of Qxb6630314aPlain.
-/
import Derived.Test.Qxb6630314aRows
import Derived.Test.Qxb6630314aPlain
import Derived.WalkKit
import Derived.WalkSpells
import Derived.WalkLawsBesides
import Derived.Laws.BytesArg
namespace Go.Proofs.Qxb6630314a
open Go.RowKit

theorem ret_bool {a b : Bool} (h : a = b) : Ending.returned (.bool a) = .returned (.bool b) := by rw [h]

set_option maxHeartbeats 1000000 in
/-- IsVisible -/
theorem vis_any (s : ByteArray) (w : World) (hs : s.size ≤ maxLen) :
    Calls Try.prog 6 #[.string s] w fun e w' => e = .returned (.bool (visS s)) ∧ w' = w := by
  unfold maxLen at hs
  go_enter Try.func6, Try.ntmps6
  go_wp2
  go_loop [6] (fun i => ∃ k : Nat, k ≤ s.size ∧ i = .int .i64 k ∧ visL (s.data.toList.take k) = true) (fun i => s.size - (intOf i).toNat)
  case atStart => exact ⟨0, Nat.zero_le _, rfl, rfl⟩
  case round =>
    obtain ⟨k, hk, rfl, hok⟩ := hrel
    have HO := hid_mk hok
    clear hok
    by_cases hlt : k < s.size
    · rcases classes (s[k].toNat : Int) with ⟨c1, c2, hc⟩ | ⟨c1, c2, hc⟩ | ⟨c1, c2, hc⟩
      · have HS := hid_mk (visL_step s k hlt HO.out hc)
        have d1 : ¬ (s[k].toNat : Int) ≤ 32 := by omega
        have d2 : ¬ 127 ≤ (s[k].toNat : Int) := by omega
        clear hc c1 c2
        go_wp2
        go_round
        case rel => exact ⟨k + 1, by omega, by go_num, HS.out⟩
        case measure => simp [intOf]; omega
      · have HB := hid_mk (visS_bad s k hlt hc)
        clear hc
        go_wp2
        go_ret
        exact ⟨ret_bool HB.out.symm, rfl⟩
      · have HB := hid_mk (visS_bad s k hlt hc)
        clear hc
        go_wp2
        go_ret
        exact ⟨ret_bool HB.out.symm, rfl⟩
    · have HF := hid_mk (visS_full s k hlt HO.out)
      go_wp2
      go_ret
      exact ⟨ret_bool HF.out.symm, rfl⟩

theorem vis_is (s : ByteArray) (B : Bool) (h : visS s = B) (hs : s.size ≤ maxLen) (w : World) :
    Calls Try.prog 6 #[.string s] w fun e w' => e = .returned (.bool B) ∧ w' = w := by
  subst h; exact vis_any s w hs

/-- 'string([]byte{c})' -/
theorem conv_one (c : UInt8) (w : World) : (convert 23 9 (.slice (some ⟨w.heap.size, 0, none⟩) 1 1)).run Try.prog (w.alloc (.cells #[.int .u8 (c.toNat : Int)] 5)) = .ok (.string (oneS c)) (w.alloc (.cells #[.int .u8 (c.toNat : Int)] 5)) := by
  have h := run_convert_bytes_arg (P := Try.prog) (w.alloc (.cells #[.int .u8 (c.toNat : Int)] 5)) 23 5 Try.underlying23 Try.underlying5 w.heap.size 0 1 1 [(c.toNat : Int)] rfl (fun i hi => by
    have : i = 0 := by omega
    subst this
    simp) 9 Try.underlying9
  rw [h]
  simp [strOfNums, oneS]
end Go.Proofs.Qxb6630314a
