/-
  (*Loop).decided and (*Value).Operands of a loop: Inits, Run, Nexts, and Undecided where there is one, in new memory, whatever the order in which Go reads the fields.
-/
import Derived.Test.Qxb6630402aCat
namespace Go.Proofs.Qxb6630402a
open Go.RowKit
attribute [local go_sem ↓] Go.wp_at_zero Go.wp_at_succ

theorem owns_mono {w : World} {b b' : Nat} {e : TypeId} {sz : Nat} {v : Value} {n : Nat} {xs : List Value} (h : w.ownsRow b e sz v n xs) (hb : b' ≤ b) : w.ownsRow b' e sz v n xs := by
  obtain ⟨h1, h | ⟨g, cap, cur, hv, hg, r⟩⟩ := h
  · exact ⟨h1, .inl h⟩
  · exact ⟨h1, .inr ⟨g, cap, cur, hv, Nat.le_trans hb hg, r⟩⟩

theorem cat_cells (w : World) (ai an : Addr) (li ln : List (Option Addr)) (ni nn ci cn : Nat) (pr : Option Addr) (hni : li.length = ni) (hnn : ln.length = nn) (hi : Ptrs w (some ai) li) (hn : Ptrs w (some an) ln) :
    ∀ (k : Nat) (l : List (Option Addr)), ([li, [pr], ln] : List (List (Option Addr)))[k]? = some l →
      ∃ a d, ((w.alloc (.cells #[.pointer pr] 25)).alloc (.cells #[.slice (some ai) ni ci, .slice (some ⟨w.heap.size, 0, none⟩) 1 1, .slice (some an) nn cn] 24)).cell? ⟨w.heap.size + 1, k, none⟩ = some (.slice (some a) l.length d)
        ∧ Ptrs ((w.alloc (.cells #[.pointer pr] 25)).alloc (.cells #[.slice (some ai) ni ci, .slice (some ⟨w.heap.size, 0, none⟩) 1 1, .slice (some an) nn cn] 24)) (some a) l := by
  subst hni hnn
  have hB : Below w.heap.size w ((w.alloc (.cells #[.pointer pr] 25)).alloc (.cells #[.slice (some ai) li.length ci, .slice (some ⟨w.heap.size, 0, none⟩) 1 1, .slice (some an) ln.length cn] 24)) :=
    ((Below.refl w.heap.size w).alloc (Nat.le_refl _) _).alloc (by simp) _
  intro k l hl
  match k, hl with
  | 0, hl =>
    have hl' : li = l := by simpa using hl
    subst hl'
    exact ⟨ai, ci, cell_new (by simp) rfl, hi.below hB⟩
  | 1, hl =>
    have hl' : [pr] = l := by simpa using hl
    subst hl'
    refine ⟨⟨w.heap.size, 0, none⟩, 1, cell_new (by simp) rfl, fun i p hp => ⟨_, _, rfl, ?_⟩⟩
    match i, hp with
    | 0, hp =>
      have hp' : pr = p := by simpa using hp
      subst hp'
      exact cell_keep (cell_new rfl rfl)
  | 2, hl =>
    have hl' : ln = l := by simpa using hl
    subst hl'
    exact ⟨an, cn, cell_new (by simp) rfl, hn.below hB⟩

/-- The lists lie behind the cells of block S. -/
def CatAt (W : World) (S : Nat) (Ls : List (List (Option Addr))) : Prop :=
  ∀ (k : Nat) (l : List (Option Addr)), Ls[k]? = some l → ∃ a d, W.cell? ⟨S, k, none⟩ = some (.slice (some a) l.length d) ∧ Ptrs W (some a) l
theorem CatAt.drew {W : World} {S : Nat} {Ls : List (List (Option Addr))} (h : CatAt W S Ls) : CatAt W.drew S Ls := h

theorem keep2 {w w1 : World} {A B : Obj} (hb : Below ((w.alloc A).alloc B).drew.heap.size ((w.alloc A).alloc B).drew w1) {a : Addr} {v : Value} (h : w.cell? a = some v) : w1.cell? a = some v := by
  have h2 : ((w.alloc A).alloc B).drew.cell? a = some v := cell_keep (cell_keep h)
  exact (hb.cell (cell_lt h2)).trans h2

set_option maxHeartbeats 2000000 in
theorem dec_any (Lp : Nat) (ai an : Addr) (li ln : List (Option Addr)) (ni nn ci cn : Nat) (pr : Option Addr) (hni : li.length = ni) (hnn : ln.length = nn) (bi : ni ≤ 4096) (bn : nn ≤ 4096) (w : World)
    (c6 : w.cell? ⟨Lp, 6, none⟩ = some (.slice (some ai) ni ci)) (c7 : w.cell? ⟨Lp, 7, none⟩ = some (.slice (some an) nn cn)) (c8 : w.cell? ⟨Lp, 8, none⟩ = some (.pointer pr)) (hi : Ptrs w (some ai) li) (hn : Ptrs w (some an) ln) :
    Calls Try.prog 11 #[.pointer (some ⟨Lp, 0, none⟩)] w (OwnBack w (li ++ [pr] ++ ln)) := by
  have HC : Hid (CatAt _ (w.heap.size + 1) [li, [pr], ln]) := cat_cells w ai an li ln ni nn ci cn pr hni hnn hi hn
  have HT : Hid (([li, [pr], ln] : List (List (Option Addr))).flatten.length = ni + 1 + nn) := by unfold Hid; simp [hni, hnn]; omega
  have HF : Hid (([li, [pr], ln] : List (List (Option Addr))).flatten = li ++ [pr] ++ ln) := by unfold Hid; simp
  clear hni hnn hi hn
  have n1 := World.new_ne w ⟨Lp, 6, none⟩ c6
  have n2 := World.new_ne w ⟨Lp, 7, none⟩ c7
  have n3 := World.new_ne w ⟨Lp, 8, none⟩ c8
  go_enter Try.func11, Try.ntmps11
  go_wp2
  go_region_held3 (fun w' => w'.cell? ⟨Lp, 6, none⟩ = some (.slice (some ai) ni ci) ∧ w'.cell? ⟨Lp, 7, none⟩ = some (.slice (some an) nn cn) ∧ w'.cell? ⟨Lp, 8, none⟩ = some (.pointer pr)) (go_keep)
    ((go_at_call 12; refine (concat_any (w.heap.size + 1) 3 3 [li, [pr], ln] rfl (by omega) (ni + 1 + nn) HT.out (by omega) (by omega) _ (by exact HC.out.drew)).mono ?_; rintro e w1 ⟨v1, rfl, ho1, hb1⟩; have k6 := keep2 hb1 c6; have k7 := keep2 hb1 c7; have k8 := keep2 hb1 c8; have HO1 := hid_mk ho1; have HB1 := hid_mk hb1; clear ho1 hb1))
  go_wp2
  go_ret
  refine ⟨v1, rfl, ?_, ?_⟩
  · have h := HO1.out
    rw [HF.out] at h
    exact owns_mono h (by simp; omega)
  · exact ext (((Below.refl w.heap.size w).alloc (Nat.le_refl _) _).alloc (by simp) _).drew HB1.out

set_option maxHeartbeats 2000000 in
/-- Operands of a loop without an Undecided. -/
theorem opl_none (V Lp : Nat) (ai an : Addr) (li ln : List (Option Addr)) (ni nn ci cn : Nat) (pr : Option Addr) (hni : li.length = ni) (hnn : ln.length = nn) (bi : ni ≤ 4096) (bn : nn ≤ 4096) (w : World)
    (c0 : w.cell? ⟨V, 0, none⟩ = some (.int .i64 35)) (c9 : w.cell? ⟨V, 9, none⟩ = some (.pointer (some ⟨Lp, 0, none⟩))) (c10 : w.cell? ⟨Lp, 10, none⟩ = some (.pointer none))
    (c6 : w.cell? ⟨Lp, 6, none⟩ = some (.slice (some ai) ni ci)) (c7 : w.cell? ⟨Lp, 7, none⟩ = some (.slice (some an) nn cn)) (c8 : w.cell? ⟨Lp, 8, none⟩ = some (.pointer pr)) (hi : Ptrs w (some ai) li) (hn : Ptrs w (some an) ln) :
    Calls Try.prog 8 #[.pointer (some ⟨V, 0, none⟩)] w (OwnBack w (li ++ [pr] ++ ln)) := by
  have HD := hid_mk (dec_any Lp ai an li ln ni nn ci cn pr hni hnn bi bn w c6 c7 c8 hi hn)
  clear hni hnn hi hn c6 c7 c8
  go_enter Try.func8, Try.ntmps8
  go_wp2_with fail
  refine HD.out.mono ?_
  rintro e w1 ⟨v1, rfl, ho1, hb1⟩
  go_wp2
  go_ret
  exact ⟨v1, rfl, ho1, hb1⟩

theorem cell_keepd {w : World} {a : Addr} {v : Value} {o : Obj} (h : w.cell? a = some v) : ((w.alloc o).drew).cell? a = some v := cell_keep h
theorem ptrs_keepd {w : World} {ao : Option Addr} {l : List (Option Addr)} {o : Obj} (h : Ptrs w ao l) : Ptrs ((w.alloc o).drew) ao l := h.below ((Below.refl w.heap.size w).alloc (Nat.le_refl _) o).drew
theorem ptrs_drew {w : World} {ao : Option Addr} {l : List (Option Addr)} (h : Ptrs w ao l) : Ptrs w.drew ao l := h
theorem bel_drew {w w1 : World} (h : Below w.drew.heap.size w.drew w1) : Below w.heap.size w w1 := ext (Below.refl w.heap.size w).drew h
theorem bel_keepd {w w1 : World} {o : Obj} (h : Below (w.alloc o).drew.heap.size (w.alloc o).drew w1) : Below w.heap.size w w1 := ext ((Below.refl w.heap.size w).alloc (Nat.le_refl _) o).drew h
theorem own_drew {w w1 : World} {v : Value} {n : Nat} {xs : List Value} (h : w1.ownsRow w.drew.heap.size 25 1 v n xs) : w1.ownsRow w.heap.size 25 1 v n xs := h
theorem own_keepd {w w1 : World} {o : Obj} {v : Value} {n : Nat} {xs : List Value} (h : w1.ownsRow (w.alloc o).drew.heap.size 25 1 v n xs) : w1.ownsRow w.heap.size 25 1 v n xs := owns_mono h (by simp)
theorem new_drew {w w1 : World} {u : Option Addr} (h : Below (w.alloc (.cells #[.pointer u] 25)).drew.heap.size (w.alloc (.cells #[.pointer u] 25)).drew w1) : w1.cell? ⟨w.heap.size, 0, none⟩ = some (.pointer u) := by
  have h2 : (w.alloc (.cells #[.pointer u] 25)).drew.cell? ⟨w.heap.size, 0, none⟩ = some (.pointer u) := cell_new rfl rfl
  exact (h.cell (cell_lt h2)).trans h2
theorem one_news {w : World} {b : Nat} {x : Value} (h : w.cell? ⟨b, 0, none⟩ = some x) : ∀ j u, ([x] : List Value)[j]? = some u → w.cell? ((⟨b, 0, none⟩ : Addr).add j) = some u := fun j u hu => by
  match j, hu with
  | 0, hu => have e : x = u := by simpa using hu
             subst e; rw [addp]; exact h

set_option linter.unusedSimpArgs false in
set_option maxHeartbeats 4000000 in
/-- Operands of a loop with an Undecided. -/
theorem opl_some (V Lp : Nat) (ai an : Addr) (li ln : List (Option Addr)) (ni nn ci cn : Nat) (pr : Option Addr) (u : Addr) (hni : li.length = ni) (hnn : ln.length = nn) (bi : ni ≤ 4096) (bn : nn ≤ 4096) (w : World)
    (c0 : w.cell? ⟨V, 0, none⟩ = some (.int .i64 35)) (c9 : w.cell? ⟨V, 9, none⟩ = some (.pointer (some ⟨Lp, 0, none⟩))) (c10 : w.cell? ⟨Lp, 10, none⟩ = some (.pointer (some u)))
    (c6 : w.cell? ⟨Lp, 6, none⟩ = some (.slice (some ai) ni ci)) (c7 : w.cell? ⟨Lp, 7, none⟩ = some (.slice (some an) nn cn)) (c8 : w.cell? ⟨Lp, 8, none⟩ = some (.pointer pr)) (hi : Ptrs w (some ai) li) (hn : Ptrs w (some an) ln) :
    Calls Try.prog 8 #[.pointer (some ⟨V, 0, none⟩)] w (OwnBack w (li ++ [pr] ++ ln ++ [some u])) := by
  have HNI := hid_mk hni
  have HNN := hid_mk hnn
  have HI := hid_mk hi
  have HN := hid_mk hn
  have HL : Hid ((li ++ [pr] ++ ln).length ≤ 8193) := by unfold Hid; simp; omega
  have C6 := hid_mk c6
  have C7 := hid_mk c7
  have C8 := hid_mk c8
  obtain ⟨t0, ht0, hz0, hz1, hz2⟩ := info_parts Try.info25
  have n1 := World.new_ne w ⟨V, 9, none⟩ c9
  have n2 := World.new_ne w ⟨Lp, 10, none⟩ c10
  clear hni hnn hi hn c6 c7 c8
  go_enter Try.func8, Try.ntmps8
  go_wp2
  go_region_held3 (fun w' => w'.cell? ⟨V, 9, none⟩ = some (.pointer (some ⟨Lp, 0, none⟩)) ∧ w'.cell? ⟨Lp, 10, none⟩ = some (.pointer (some u))) (go_keep)
    (first
      | (go_at_call 11; refine (dec_any Lp ai an li ln ni nn ci cn pr HNI.out HNN.out bi bn _ (by first | exact C6.out | exact cell_keepd C6.out) (by first | exact C7.out | exact cell_keepd C7.out) (by first | exact C8.out | exact cell_keepd C8.out) (by first | exact ptrs_drew HI.out | exact ptrs_keepd HI.out) (by first | exact ptrs_drew HN.out | exact ptrs_keepd HN.out)).mono ?_; rintro e w1 ⟨v1, rfl, ho1, hb1⟩; have HB1 : Hid (Below w.heap.size w w1) := (by first | exact bel_drew hb1 | exact bel_keepd hb1); have HO1 : Hid (w1.ownsRow w.heap.size 25 1 v1 (li ++ [pr] ++ ln).length ((li ++ [pr] ++ ln).map Value.pointer)) := (by first | exact own_drew ho1 | exact own_keepd ho1); have k9 := (HB1.out.cell (cell_lt c9)).trans c9; have k10 := (HB1.out.cell (cell_lt c10)).trans c10; try (have hnu := hid_mk (new_drew hb1)); clear ho1 hb1)
      | (refine step_append_lies _ (by rfl) (.tmp 23) (.tmp 31) 24 (by rfl) w.heap.size 25 t0 (.pointer none) 1 8 Try.underlying24 ht0 hz0 hz1 hz2 (by rfl) (by decide) v1 _ _ (by simp [Act.eval, Act.put]) (by exact HO1.out) ⟨w.heap.size, 0, none⟩ 1 1 [.pointer (some u)] (by simp [Act.eval, Act.put]) (by rfl) (by exact one_news hnu.out) (by intro x hx; simp at hx; subst hx; rfl) (by decide) (by have := HL.out; unfold maxLen; omega) (by have := HL.out; omega) (by exact HB1.out.size) _ (by rfl) ?_; intro g cap w2 hown2 hgrow2 hat hlt; have HB2 : Hid (Below w.heap.size w w2) := HB1.out.grown hgrow2 HB1.out.size (fun k hk => (HO1.out.lt k hk).1); have k9' := (HB2.out.cell (cell_lt c9)).trans c9; have k10' := (HB2.out.cell (cell_lt c10)).trans c10; have HO2 := hid_mk hown2; clear hown2 hgrow2 hat hlt)
      | (refine step_append_lies _ (by rfl) (.tmp 23) (.tmp 31) 24 (by rfl) w.heap.size 25 t0 (.pointer none) 1 8 Try.underlying24 ht0 hz0 hz1 hz2 (by rfl) (by decide) v1 _ _ (by simp [Act.eval, Act.put]) (by exact HO1.out.alloc _) ⟨w1.heap.size, 0, none⟩ 1 1 [.pointer (some u)] (by simp [Act.eval, Act.put]) (by rfl) (by exact one_news (cell_new rfl rfl)) (by intro x hx; simp at hx; subst hx; rfl) (by decide) (by have := HL.out; unfold maxLen; omega) (by have := HL.out; omega) (by have := HB1.out.size; simp; omega) _ (by rfl) ?_; intro g cap w2 hown2 hgrow2 hat hlt; have HB2 : Hid (Below w.heap.size w w2) := (HB1.out.alloc HB1.out.size _).grown hgrow2 (by have := HB1.out.size; simp; omega) (fun k hk => (HO1.out.lt k hk).1); have k9' := (HB2.out.cell (cell_lt c9)).trans c9; have k10' := (HB2.out.cell (cell_lt c10)).trans c10; have HO2 := hid_mk hown2; clear hown2 hgrow2 hat hlt))
  all_goals go_wp2
  all_goals go_ret
  all_goals
    refine ⟨_, rfl, ?_, HB2.out⟩
    simpa [Nat.add_assoc] using HO2.out
end Go.Proofs.Qxb6630402a
