/-
  THE PLAIN MATHEMATICS OF THIS SEAT: strings in byte order, strictly increasing lists, their intersection. No Go text in sight (the model's own order on bytes is named).
-/
import GoSem.Op.String
import Derived.Laws.Strings
import Derived.Below
namespace Go.Proofs.Qxb6630356a

theorem hid_mk {p : Prop} (h : p) : Go.RowKit.Hid p := h

/-- The model's '<' on strings is the lexical order of the bytes' lists. -/
theorem less_eq : ∀ (x y : List UInt8), Op.bytesLess x y = decide (x < y)
  | [], [] => by simp [Op.bytesLess]
  | _ :: _, [] => by simp [Op.bytesLess]
  | [], _ :: _ => by simp [Op.bytesLess]
  | a :: x, b :: y => by
    rw [Op.bytesLess, less_eq x y]
    simp only [List.cons_lt_cons_iff]
    by_cases h1 : a < b <;> by_cases h2 : a = b <;> by_cases h3 : x < y <;> simp [h1, h2, h3]

/-- Strings in byte order. -/
def lt (a b : ByteArray) : Bool := Op.bytesLess a.toList b.toList

theorem bytes_eq {a b : ByteArray} (h : a.toList = b.toList) : a = b := by
  rw [ByteArray.toList_eq, ByteArray.toList_eq] at h
  exact ByteArray.ext (Array.toList_inj.1 h)

theorem lt_irrefl (a : ByteArray) : lt a a = false := by
  unfold lt; rw [less_eq]; simp [List.lt_irrefl]
theorem lt_trans {a b c : ByteArray} (h : lt a b = true) (k : lt b c = true) : lt a c = true := by
  unfold lt at *; rw [less_eq] at *
  simp only [decide_eq_true_eq] at *
  exact List.lt_trans h k
theorem lt_total (a b : ByteArray) : lt a b = true ∨ a = b ∨ lt b a = true := by
  by_cases h : lt a b = true
  · exact .inl h
  by_cases k : lt b a = true
  · exact .inr (.inr k)
  refine .inr (.inl (bytes_eq ?_))
  unfold lt at h k; rw [less_eq] at h k
  simp only [decide_eq_true_eq] at h k
  exact List.le_antisymm k h
theorem lt_ne {a b : ByteArray} (h : lt a b = true) : a ≠ b := by intro e; subst e; rw [lt_irrefl] at h; cases h
theorem lt_asymm {a b : ByteArray} (h : lt a b = true) : lt b a = false := by
  cases k : lt b a with
  | false => rfl
  | true => have := lt_trans h k; rw [lt_irrefl] at this; cases this

/-- Strictly increasing. -/
def Inc (l : List ByteArray) : Prop := l.Pairwise fun a b => lt a b = true

theorem inc_of_steps (l : List ByteArray) (h : ∀ i a b, l[i]? = some a → l[i + 1]? = some b → lt a b = true) : Inc l := by
  unfold Inc
  induction l with
  | nil => exact List.Pairwise.nil
  | cons x t ih =>
    have ht := ih (fun i a b ha hb => h (i + 1) a b (by simpa using ha) (by simpa using hb))
    refine List.Pairwise.cons (fun y hy => ?_) ht
    cases t with
    | nil => cases hy
    | cons z r =>
      have hxz : lt x z = true := h 0 x z rfl rfl
      rcases List.mem_cons.1 hy with e | hr
      · subst e; exact hxz
      · exact lt_trans hxz ((List.pairwise_cons.1 ht).1 y hr)

theorem Inc.get {l : List ByteArray} (h : Inc l) {i j : Nat} {a b : ByteArray} (hij : i < j) (ha : l[i]? = some a) (hb : l[j]? = some b) : lt a b = true := by
  obtain ⟨hi, rfl⟩ := List.getElem?_eq_some_iff.1 ha
  obtain ⟨hj, rfl⟩ := List.getElem?_eq_some_iff.1 hb
  exact (List.pairwise_iff_getElem.1 h) i j hi hj hij

/-- Those of the first that the second holds too, in the first's order. -/
def hasB (l : List ByteArray) (x : ByteArray) : Bool := l.any fun y => y.toList == x.toList
theorem hasB_iff {l : List ByteArray} {x : ByteArray} : hasB l x = true ↔ x ∈ l := by
  unfold hasB; rw [List.any_eq_true]
  constructor
  · rintro ⟨y, hy, e⟩
    have := bytes_eq (by simpa using e); subst this; exact hy
  · intro h; exact ⟨x, h, by simp⟩
theorem hasB_not {l : List ByteArray} {x : ByteArray} (h : x ∉ l) : hasB l x = false := by
  cases k : hasB l x with
  | false => rfl
  | true => exact absurd (hasB_iff.1 k) h
def inter (la lb : List ByteArray) : List ByteArray := la.filter (hasB lb)

theorem mem_inter {la lb : List ByteArray} {x : ByteArray} : x ∈ inter la lb ↔ x ∈ la ∧ x ∈ lb := by rw [inter, List.mem_filter, hasB_iff]
theorem inter_length (la lb : List ByteArray) : (inter la lb).length ≤ la.length := List.length_filter_le _ _
theorem inc_inter {la lb : List ByteArray} (h : Inc la) : Inc (inter la lb) := List.Pairwise.filter _ h
theorem inter_snoc (l lb : List ByteArray) (x : ByteArray) : inter (l ++ [x]) lb = inter l lb ++ (if hasB lb x then [x] else []) := by
  simp only [inter, List.filter_append]; congr 1
  cases h : hasB lb x <;> simp [h]

theorem inc_ext : ∀ {l m : List ByteArray}, Inc l → Inc m → (∀ x, x ∈ l ↔ x ∈ m) → l = m
  | [], [], _, _, _ => rfl
  | [], b :: m, _, _, h => absurd ((h b).2 (by simp)) (by simp)
  | a :: l, [], _, _, h => absurd ((h a).1 (by simp)) (by simp)
  | a :: l, b :: m, hl, hm, h => by
    have hl' := List.pairwise_cons.1 hl
    have hm' := List.pairwise_cons.1 hm
    have hab : a = b := by
      rcases List.mem_cons.1 ((h a).1 (by simp)) with e | ha
      · exact e
      · rcases List.mem_cons.1 ((h b).2 (by simp)) with e | hb
        · exact e.symm
        · have h1 := hm'.1 a ha
          have h2 := hl'.1 b hb
          rw [lt_asymm h1] at h2; cases h2
    subst hab
    congr 1
    refine inc_ext hl'.2 hm'.2 (fun x => ⟨fun hx => ?_, fun hx => ?_⟩)
    · rcases List.mem_cons.1 ((h x).1 (by simp [hx])) with e | hy
      · exact absurd e (lt_ne (hl'.1 x hx)).symm
      · exact hy
    · rcases List.mem_cons.1 ((h x).2 (by simp [hx])) with e | hy
      · exact absurd e (lt_ne (hm'.1 x hx)).symm
      · exact hy

theorem inter_self (la : List ByteArray) : inter la la = la := by
  unfold inter; rw [List.filter_eq_self]; intro x hx; exact hasB_iff.2 hx
theorem inter_comm {la lb : List ByteArray} (ha : Inc la) (hb : Inc lb) : inter la lb = inter lb la :=
  inc_ext (inc_inter ha) (inc_inter hb) (fun x => by rw [mem_inter, mem_inter]; exact And.comm)
theorem inter_absorb_left (la lb : List ByteArray) : inter la (inter la lb) = inter la lb := by
  unfold inter
  apply List.filter_congr
  intro x hx
  rw [Bool.eq_iff_iff, hasB_iff, hasB_iff, List.mem_filter, hasB_iff]
  exact ⟨fun h => h.2, fun h => ⟨hx, h⟩⟩
theorem inter_absorb_right (la lb : List ByteArray) : inter (inter la lb) lb = inter la lb := by
  unfold inter
  rw [List.filter_filter]; apply List.filter_congr; intro x _; simp

/-! ### The merge: where Label stands with i of the first and j of the second behind it -/
def Merged (la lb : List ByteArray) (i j : Nat) (acc : List ByteArray) : Prop :=
  i ≤ la.length ∧ j ≤ lb.length ∧ acc = inter (la.take i) lb ∧ ∀ x ∈ la.drop i, x ∉ lb.take j

theorem merged_start (la lb : List ByteArray) : Merged la lb 0 0 [] := ⟨Nat.zero_le _, Nat.zero_le _, rfl, fun _ _ h => by simp at h⟩

theorem take_snoc {l : List ByteArray} {i : Nat} {x : ByteArray} (h : l[i]? = some x) : l.take (i + 1) = l.take i ++ [x] := by
  obtain ⟨hi, rfl⟩ := List.getElem?_eq_some_iff.1 h
  rw [List.take_succ_eq_append_getElem hi]
theorem mem_drop_of {l : List ByteArray} {i : Nat} {x : ByteArray} (h : x ∈ l.drop (i + 1)) : x ∈ l.drop i := by
  have e : l.drop (i + 1) = (l.drop i).drop 1 := by rw [List.drop_drop]
  rw [e] at h
  exact List.mem_of_mem_drop h
/-- What stands from place i on: the element at i, or later ones. -/
theorem mem_drop_cases {l : List ByteArray} (hl : Inc l) {i : Nat} {x y : ByteArray} (hx : l[i]? = some x) (hy : y ∈ l.drop i) : y = x ∨ lt x y = true := by
  obtain ⟨k, hk, rfl⟩ := List.mem_iff_getElem.1 hy
  simp only [List.length_drop] at hk
  have hg : l[i + k]? = some ((l.drop i)[k]) := by rw [List.getElem_drop]; exact List.getElem?_eq_getElem (by omega)
  rcases Nat.eq_zero_or_pos k with h | h
  · subst h; left; rw [Nat.add_zero, hx] at hg; injection hg with hg; exact hg.symm
  · right; exact hl.get (by omega) hx hg
theorem mem_split {l : List ByteArray} {j : Nat} {x : ByteArray} (h : x ∈ l) : x ∈ l.take j ∨ x ∈ l.drop j := by
  rw [← List.take_append_drop j l] at h; exact List.mem_append.1 h
theorem not_mem_take_succ {l : List ByteArray} {j : Nat} {x y : ByteArray} (hy : l[j]? = some y) (h1 : x ∉ l.take j) (h2 : x ≠ y) : x ∉ l.take (j + 1) := by
  rw [take_snoc hy]; simp [h1, h2]
theorem mem_drop_succ {l : List ByteArray} (hl : Inc l) {i : Nat} {x y : ByteArray} (hx : l[i]? = some x) (hy : y ∈ l.drop (i + 1)) : lt x y = true := by
  obtain ⟨k, hk, rfl⟩ := List.mem_iff_getElem.1 hy
  simp only [List.length_drop] at hk
  have hg : l[i + 1 + k]? = some ((l.drop (i + 1))[k]) := by rw [List.getElem_drop]; exact List.getElem?_eq_getElem (by omega)
  exact hl.get (by omega) hx hg
theorem lt_len {l : List ByteArray} {i : Nat} {x : ByteArray} (h : l[i]? = some x) : i < l.length := (List.getElem?_eq_some_iff.1 h).1
theorem mem_drop_self {l : List ByteArray} {i : Nat} {x : ByteArray} (h : l[i]? = some x) : x ∈ l.drop i := by
  obtain ⟨hi, rfl⟩ := List.getElem?_eq_some_iff.1 h
  rw [List.drop_eq_getElem_cons hi]; exact List.mem_cons_self

theorem merged_lt {la lb : List ByteArray} {i j : Nat} {acc : List ByteArray} {x y : ByteArray} (hb : Inc lb) (h : Merged la lb i j acc) (hx : la[i]? = some x) (hy : lb[j]? = some y) (hlt : lt x y = true) :
    Merged la lb (i + 1) j acc := by
  obtain ⟨_, h2, h3, h4⟩ := h
  refine ⟨lt_len hx, h2, ?_, fun z hz => h4 z (mem_drop_of hz)⟩
  have hn : x ∉ lb := fun hm => by
    rcases mem_split (j := j) hm with hm | hm
    · exact h4 x (mem_drop_self hx) hm
    · rcases mem_drop_cases hb hy hm with e | e
      · exact lt_ne hlt e
      · rw [lt_asymm hlt] at e; cases e
  rw [take_snoc hx, inter_snoc, hasB_not hn, if_neg (by simp), List.append_nil]; exact h3
theorem merged_gt {la lb : List ByteArray} {i j : Nat} {acc : List ByteArray} {x y : ByteArray} (ha : Inc la) (h : Merged la lb i j acc) (hx : la[i]? = some x) (hy : lb[j]? = some y) (hlt : lt y x = true) :
    Merged la lb i (j + 1) acc := by
  obtain ⟨h1, _, h3, h4⟩ := h
  refine ⟨h1, lt_len hy, h3, fun z hz => not_mem_take_succ hy (h4 z hz) ?_⟩
  rcases mem_drop_cases ha hx hz with e | e
  · subst e; exact (lt_ne hlt).symm
  · exact (lt_ne (lt_trans hlt e)).symm
theorem merged_eq {la lb : List ByteArray} {i j : Nat} {acc : List ByteArray} {x : ByteArray} (ha : Inc la) (h : Merged la lb i j acc) (hx : la[i]? = some x) (hy : lb[j]? = some x) :
    Merged la lb (i + 1) (j + 1) (acc ++ [x]) := by
  obtain ⟨_, _, h3, h4⟩ := h
  refine ⟨lt_len hx, lt_len hy, ?_, fun z hz => not_mem_take_succ hy (h4 z (mem_drop_of hz)) ?_⟩
  · rw [take_snoc hx, inter_snoc, if_pos (hasB_iff.2 (List.mem_of_getElem? hy)), h3]
  · exact (lt_ne (mem_drop_succ ha hx hz)).symm
theorem merged_end {la lb : List ByteArray} {i j : Nat} {acc : List ByteArray} (h : Merged la lb i j acc) (he : la.length ≤ i ∨ lb.length ≤ j) : acc = inter la lb := by
  obtain ⟨_, _, h3, h4⟩ := h
  rcases he with he | he
  · rwa [List.take_of_length_le he] at h3
  · rw [List.take_of_length_le he] at h4
    have e : inter la lb = inter (la.take i) lb ++ inter (la.drop i) lb := by
      unfold inter; rw [← List.filter_append, List.take_append_drop]
    have e2 : inter (la.drop i) lb = [] := by
      unfold inter; rw [List.filter_eq_nil_iff]; intro x hx; rw [hasB_not (h4 x hx)]; simp
    rw [e, e2, List.append_nil]; exact h3
theorem merged_len {la lb : List ByteArray} {i j : Nat} {acc : List ByteArray} (h : Merged la lb i j acc) : acc.length ≤ i := by
  rw [h.2.2.1]; exact Nat.le_trans (inter_length _ _) (List.length_take_le _ _)

/-! ### The binary search -/
def Searched (l : List ByteArray) (x : ByteArray) (lo hi : Nat) : Prop :=
  lo ≤ hi ∧ hi ≤ l.length ∧ (∀ i y, i < lo → l[i]? = some y → lt y x = true) ∧ ∀ i y, hi ≤ i → l[i]? = some y → lt y x = false
theorem searched_start (l : List ByteArray) (x : ByteArray) : Searched l x 0 l.length :=
  ⟨Nat.zero_le _, Nat.le_refl _, fun i y h => absurd h (by omega), fun i y h hy => absurd (lt_len hy) (by omega)⟩
theorem searched_up {l : List ByteArray} (hl : Inc l) {x y : ByteArray} {lo hi mid : Nat} (h : Searched l x lo hi) (hm : mid < hi) (hy : l[mid]? = some y) (hlt : lt y x = true) : Searched l x (mid + 1) hi := by
  obtain ⟨_, h2, _, h4⟩ := h
  refine ⟨hm, h2, fun i z hi' hz => ?_, h4⟩
  rcases Nat.lt_or_eq_of_le (Nat.le_of_lt_succ hi') with e | e
  · exact lt_trans (hl.get e hz hy) hlt
  · subst e; rw [hz] at hy; injection hy with hy; subst hy; exact hlt
theorem searched_down {l : List ByteArray} (hl : Inc l) {x y : ByteArray} {lo hi mid : Nat} (h : Searched l x lo hi) (hm : lo ≤ mid) (hm2 : mid < hi) (hy : l[mid]? = some y) (hlt : lt y x = false) : Searched l x lo mid := by
  obtain ⟨_, h2, h3, _⟩ := h
  refine ⟨hm, by omega, h3, fun i z hi' hz => ?_⟩
  rcases Nat.lt_or_eq_of_le hi' with e | e
  · cases k : lt z x with
    | false => rfl
    | true => rw [lt_trans (hl.get e hy hz) k] at hlt; cases hlt
  · subst e; rw [hz] at hy; injection hy with hy; subst hy; exact hlt
theorem searched_found {l : List ByteArray} {x : ByteArray} {lo : Nat} (hy : l[lo]? = some x) : x ∈ l := List.mem_of_getElem? hy
theorem searched_not {l : List ByteArray} (hl : Inc l) {x : ByteArray} {lo hi : Nat} (h : Searched l x lo hi) (hle : hi ≤ lo) (hn : ∀ y, l[lo]? = some y → y ≠ x) : x ∉ l := fun hm => by
  obtain ⟨k, hk, e⟩ := List.mem_iff_getElem.1 hm
  have hg : l[k]? = some x := by rw [← e]; exact List.getElem?_eq_getElem hk
  rcases Nat.lt_trichotomy k lo with c | c | c
  · have := h.2.2.1 k x c hg; rw [lt_irrefl] at this; cases this
  · subst c; exact hn x hg rfl
  · have hlo : lo < l.length := by omega
    have h1 := h.2.2.2 lo _ hle (List.getElem?_eq_getElem hlo)
    rw [hl.get c (List.getElem?_eq_getElem hlo) hg] at h1; cases h1
end Go.Proofs.Qxb6630356a
