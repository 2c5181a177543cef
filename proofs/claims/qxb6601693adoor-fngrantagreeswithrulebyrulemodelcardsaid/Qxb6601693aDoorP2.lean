import Derived.Lib.SlicesCompact
namespace Go.Proofs.Qxb6601693aDoor

abbrev Bs := List UInt8
theorem bs_irrefl (x : Bs) : ¬ x < x := List.lt_irrefl x
theorem bs_trans {x y z : Bs} (h : x < y) (h' : y < z) : x < z := List.lt_trans h h'
theorem bs_asymm {x y : Bs} (h : x < y) : ¬ y < x := fun h' => bs_irrefl x (bs_trans h h')
theorem bs_eq {x y : Bs} (h : ¬ x < y) (h' : ¬ y < x) : x = y := List.le_antisymm (as := x) (bs := y) h' h
theorem bs_le_trans {x y z : Bs} (h : x ≤ y) (h' : y < z) : x < z := by
  by_cases e : x = y
  · rw [e]; exact h'
  · refine bs_trans ?_ h'
    by_cases hlt : x < y
    · exact hlt
    · exact absurd (bs_eq hlt h) e

/-- strictly ascending -/
def Asc (l : List Bs) : Prop := l.Pairwise (· < ·)
theorem asc_unique : ∀ {l1 l2 : List Bs}, Asc l1 → Asc l2 → (∀ x, x ∈ l1 ↔ x ∈ l2) → l1 = l2
  | [], [], _, _, _ => rfl
  | [], b :: t2, _, _, h => absurd ((h b).2 (List.mem_cons_self ..)) (by simp)
  | a :: t1, [], _, _, h => absurd ((h a).1 (List.mem_cons_self ..)) (by simp)
  | a :: t1, b :: t2, h1, h2, h => by
    have h1' := List.pairwise_cons.1 h1
    have h2' := List.pairwise_cons.1 h2
    have e : a = b := by
      rcases List.mem_cons.1 ((h a).1 (List.mem_cons_self ..)) with e | ha
      · exact e
      · rcases List.mem_cons.1 ((h b).2 (List.mem_cons_self ..)) with e | hb
        · exact e.symm
        · exact absurd (h1'.1 b hb) (bs_asymm (h2'.1 a ha))
    subst e
    congr 1
    refine asc_unique h1'.2 h2'.2 fun x => ⟨fun hx => ?_, fun hx => ?_⟩
    · rcases List.mem_cons.1 ((h x).1 (List.mem_cons_of_mem _ hx)) with e | hy
      · exact absurd (h1'.1 x hx) (by rw [e]; exact bs_irrefl _)
      · exact hy
    · rcases List.mem_cons.1 ((h x).2 (List.mem_cons_of_mem _ hx)) with e | hy
      · exact absurd (h2'.1 x hx) (by rw [e]; exact bs_irrefl _)
      · exact hy

/-- how many at the head lie below x -/
def headLt (x : Bs) : List Bs → Nat
  | [] => 0
  | y :: ys => if y < x then headLt x ys + 1 else 0
theorem headLt_le (x : Bs) : ∀ l, headLt x l ≤ l.length
  | [] => Nat.le_refl _
  | y :: ys => by
    unfold headLt
    have := headLt_le x ys
    split
    · simp only [List.length_cons]; omega
    · exact Nat.zero_le _
theorem headLt_lt (x : Bs) : ∀ (l : List Bs) (j : Nat), j < headLt x l → l.getD j [] < x
  | [], j, h => absurd h (Nat.not_lt_zero _)
  | y :: ys, j, h => by
    unfold headLt at h
    split at h
    · rename_i hy
      cases j with
      | zero => exact hy
      | succ j => exact headLt_lt x ys j (by omega)
    · exact absurd h (Nat.not_lt_zero _)
theorem headLt_at (x : Bs) : ∀ (l : List Bs), headLt x l < l.length → ¬ l.getD (headLt x l) [] < x
  | [], h => absurd h (Nat.not_lt_zero _)
  | y :: ys, h => by
    unfold headLt at h ⊢
    split
    · rename_i hy
      rw [if_pos hy] at h
      exact headLt_at x ys (by simpa using h)
    · rename_i hy
      exact hy
/-- from what the loop knows: the place is the head's length -/
theorem headLt_eq {x : Bs} : ∀ {l : List Bs} {p : Nat}, p ≤ l.length → (∀ j, j < p → l.getD j [] < x) → (p < l.length → ¬ l.getD p [] < x) → p = headLt x l
  | [], p, h, _, _ => by
    have : p = 0 := by simpa using h
    rw [this]; rfl
  | y :: ys, p, h, h1, h2 => by
    unfold headLt
    cases p with
    | zero =>
      have h3 : ¬ y < x := h2 (by simp)
      rw [if_neg h3]
    | succ p =>
      have h3 : y < x := h1 0 (by omega)
      rw [if_pos h3, ← headLt_eq (l := ys) (p := p) (by simpa using h) (fun j hj => h1 (j + 1) (by omega)) (fun hp => h2 (by simpa using hp))]

/-- zzInsertSorted -/
def ins (l : List Bs) (x : Bs) : List Bs :=
  if headLt x l < l.length ∧ l.getD (headLt x l) [] = x then l else l.take (headLt x l) ++ x :: l.drop (headLt x l)
theorem getD_getElem {l : List Bs} {j : Nat} (h : j < l.length) : l.getD j [] = l[j] := by
  rw [List.getD_eq_getElem?_getD, List.getElem?_eq_getElem h]; rfl
theorem ins_mem (l : List Bs) (x y : Bs) : y ∈ ins l x ↔ y = x ∨ y ∈ l := by
  unfold ins
  split
  · rename_i h
    constructor
    · exact fun h => .inr h
    · rintro (e | h')
      · rw [e]
        have h2 := h.2
        rw [getD_getElem h.1] at h2
        have := List.getElem_mem h.1
        rw [h2] at this
        exact this
      · exact h'
  · have e : y ∈ l ↔ y ∈ l.take (headLt x l) ∨ y ∈ l.drop (headLt x l) := by
      rw [← List.mem_append, List.take_append_drop]
    rw [e, List.mem_append, List.mem_cons]
    constructor
    · rintro (h | h | h)
      · exact .inr (.inl h)
      · exact .inl h
      · exact .inr (.inr h)
    · rintro (h | h | h)
      · exact .inr (.inl h)
      · exact .inl h
      · exact .inr (.inr h)
theorem ins_asc {l : List Bs} (x : Bs) (h : Asc l) : Asc (ins l x) := by
  unfold ins
  split
  · exact h
  · rename_i hne
    have hle := headLt_le x l
    have hlo : ∀ a ∈ l.take (headLt x l), a < x := fun a ha => by
      obtain ⟨j, hj, e⟩ := List.mem_iff_getElem.1 ha
      have hj' : j < headLt x l := by rw [List.length_take] at hj; omega
      have := headLt_lt x l j hj'
      rw [getD_getElem (by omega)] at this
      rw [← e, List.getElem_take]
      exact this
    have hhi : ∀ a ∈ l.drop (headLt x l), x < a := fun a ha => by
      obtain ⟨j, hj, e⟩ := List.mem_iff_getElem.1 ha
      rw [List.length_drop] at hj
      rw [List.getElem_drop] at e
      have hp : headLt x l < l.length := by omega
      have h1 := headLt_at x l hp
      have h0 : x < l.getD (headLt x l) [] := by
        by_cases hlt : x < l.getD (headLt x l) []
        · exact hlt
        · exact absurd ⟨hp, bs_eq h1 hlt⟩ hne
      rw [getD_getElem hp] at h0
      cases j with
      | zero => rw [← e]; exact h0
      | succ j =>
        refine bs_trans h0 ?_
        rw [← e]
        exact List.pairwise_iff_getElem.1 h _ _ _ _ (by omega)
    refine List.pairwise_append.2 ⟨h.sublist (List.take_sublist _ _), List.pairwise_cons.2 ⟨hhi, h.sublist (List.drop_sublist _ _)⟩, fun a ha b hb => ?_⟩
    rcases List.mem_cons.1 hb with e | hb
    · rw [e]; exact hlo a ha
    · exact bs_trans (hlo a ha) (hhi b hb)
theorem fold_ins (acts : List Bs) : ∀ (l : List Bs), Asc l → Asc (acts.foldl ins l) ∧ ∀ y, y ∈ acts.foldl ins l ↔ y ∈ acts ∨ y ∈ l := by
  induction acts with
  | nil => exact fun l h => ⟨h, fun y => by simp⟩
  | cons a acts ih =>
    intro l h
    obtain ⟨h1, h2⟩ := ih (ins l a) (ins_asc a h)
    refine ⟨h1, fun y => ?_⟩
    rw [List.foldl_cons, h2, ins_mem, List.mem_cons]
    constructor
    · rintro (h | h | h)
      · exact .inl (.inr h)
      · exact .inl (.inl h)
      · exact .inr h
    · rintro ((h | h) | h)
      · exact .inr (.inl h)
      · exact .inl h
      · exact .inr (.inr h)

/- ---- sort and compact ---- -/
theorem compact_asc (d : Array Bs) (hs : ∀ i j, i < j → j < d.size → d[i]! ≤ d[j]!) : ∀ m, m ≤ d.size → Asc (Lib.compactUpTo d m) ∧ ∀ y, y ∈ Lib.compactUpTo d m ↔ ∃ j, j < m ∧ y = d[j]!
  | 0, _ => ⟨List.Pairwise.nil, fun y => ⟨fun h => (List.not_mem_nil h).elim, fun ⟨j, hj, _⟩ => absurd hj (Nat.not_lt_zero _)⟩⟩
  | m + 1, hm => by
    obtain ⟨h1, h2⟩ := compact_asc d hs m (by omega)
    rw [Lib.compactUpTo_succ]
    by_cases hk : Lib.keeps d m = true
    · rw [if_pos hk]
      have hk' : m = 0 ∨ d[m]! ≠ d[m - 1]! := by simpa [Lib.keeps] using hk
      refine ⟨List.pairwise_append.2 ⟨h1, List.pairwise_singleton _ _, fun a ha b hb => ?_⟩, fun y => ?_⟩
      · obtain ⟨j, hj, rfl⟩ := (h2 a).1 ha
        have hb' := List.mem_singleton.1 hb
        subst hb'
        rcases hk' with h0 | hne
        · omega
        · have hlast : d[m - 1]! < d[m]! := by
            have hle := hs (m - 1) m (by omega) (by omega)
            by_cases hlt : d[m - 1]! < d[m]!
            · exact hlt
            · exact absurd (bs_eq hlt hle).symm hne
          by_cases e : j = m - 1
          · rw [e]; exact hlast
          · exact bs_le_trans (hs j (m - 1) (by omega) (by omega)) hlast
      · rw [List.mem_append, h2, List.mem_singleton]
        constructor
        · rintro (⟨j, hj, e⟩ | e)
          · exact ⟨j, by omega, e⟩
          · exact ⟨m, by omega, e⟩
        · rintro ⟨j, hj, e⟩
          by_cases ej : j = m
          · rw [ej] at e; exact .inr e
          · exact .inl ⟨j, by omega, e⟩
    · rw [if_neg hk, List.append_nil]
      refine ⟨h1, fun y => ?_⟩
      have hk' : m ≠ 0 ∧ d[m]! = d[m - 1]! := by
        simp only [Lib.keeps, decide_eq_true_eq, not_or, Decidable.not_not] at hk
        exact hk
      rw [h2]
      constructor
      · rintro ⟨j, hj, e⟩
        exact ⟨j, by omega, e⟩
      · rintro ⟨j, hj, e⟩
        by_cases ej : j = m
        · rw [ej, hk'.2] at e
          exact ⟨m - 1, by omega, e⟩
        · exact ⟨j, by omega, e⟩
theorem sort_le (l : List Bs) (i j : Nat) (h : i < j) (hj : j < (l.mergeSort fun x y => decide (x ≤ y)).toArray.size) : (l.mergeSort fun x y => decide (x ≤ y)).toArray[i]! ≤ (l.mergeSort fun x y => decide (x ≤ y)).toArray[j]! := by
  have hp : (l.mergeSort fun x y => decide (x ≤ y)).Pairwise (fun a b => decide (a ≤ b) = true) := List.pairwise_mergeSort (le := fun x y => decide (x ≤ y)) (fun a b c h1 h2 => by
      simp only [decide_eq_true_eq] at h1 h2 ⊢
      exact List.le_trans h1 h2) (fun a b => by
      simp only [Bool.or_eq_true, decide_eq_true_eq]
      exact List.le_total a b) l
  have hj' : j < (l.mergeSort fun x y => decide (x ≤ y)).length := by simpa using hj
  have := List.pairwise_iff_getElem.1 hp i j (by omega) hj' h
  rw [getElem!_pos _ i (by simpa using (by omega : i < (l.mergeSort fun x y => decide (x ≤ y)).length)), getElem!_pos _ j hj]
  simpa using this
/-- slices.Compact of slices.Sort is the fold of zzInsertSorted -/
theorem sort_compact (l : List Bs) : Lib.compactUpTo (l.mergeSort fun x y => decide (x ≤ y)).toArray (l.mergeSort fun x y => decide (x ≤ y)).toArray.size = l.foldl ins [] := by
  obtain ⟨h1, h2⟩ := compact_asc (l.mergeSort fun x y => decide (x ≤ y)).toArray (sort_le l) _ (Nat.le_refl _)
  obtain ⟨h3, h4⟩ := fold_ins l [] List.Pairwise.nil
  refine asc_unique h1 h3 fun y => ?_
  rw [h2, h4]
  have hm : y ∈ l ↔ y ∈ l.mergeSort fun x y => decide (x ≤ y) := (List.mergeSort_perm l _).mem_iff.symm
  rw [hm]
  constructor
  · rintro ⟨j, hj, e⟩
    refine .inl ?_
    rw [e, getElem!_pos _ j hj]
    simp only [List.getElem_toArray]
    exact List.getElem_mem _
  · rintro (h | h)
    · obtain ⟨j, hj, e⟩ := List.mem_iff_getElem.1 h
      refine ⟨j, by simpa using hj, ?_⟩
      rw [getElem!_pos _ j (by simpa using hj)]
      simpa using e.symm
    · exact (List.not_mem_nil h).elim
end Go.Proofs.Qxb6601693aDoor
