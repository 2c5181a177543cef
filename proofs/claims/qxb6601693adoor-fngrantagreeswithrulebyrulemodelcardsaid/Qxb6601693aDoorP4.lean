import Derived.Test.Qxb6601693aDoorP3
namespace Go.Proofs.Qxb6601693aDoor

theorem firsts_len (asl : List ResD) : ∀ k, (firsts asl k).length ≤ k
  | 0 => Nat.le_refl _
  | k + 1 => by
    have := firsts_len asl k
    unfold firsts
    split
    · omega
    · rw [List.length_append]
      simp
      omega
theorem merge_len (asl : List ResD) (k : Nat) : (mergeL asl k).length ≤ k := by
  rw [merge_eq, List.length_map]
  exact firsts_len asl k
theorem actsOf_len (asl : List ResD) (i : Nat) (h : ∀ m, m < asl.length → (rd asl m).acts.length ≤ 1048576) : ∀ k, k ≤ asl.length → (actsOf asl i k).length ≤ k * 1048576
  | 0, _ => Nat.le_refl _
  | k + 1, hk => by
    have h1 := actsOf_len asl i h k (by omega)
    have h2 := h k (by omega)
    unfold actsOf
    rw [List.length_append, Nat.succ_mul]
    split
    · exact Nat.add_le_add h1 h2
    · rw [List.length_nil]
      exact Nat.add_le_add h1 (Nat.zero_le _)
theorem rd_map {α : Type} (f : α → ResD) (l : List α) (i : Nat) (h : i < l.length) : rd (l.map f) i = f l[i] := by
  unfold rd
  rw [List.getD_eq_getElem?_getD, List.getElem?_map, List.getElem?_eq_getElem h]
  rfl
theorem merge_at (asl : List ResD) (k i : Nat) (h : i < (mergeL asl k).length) : ∃ m, m < k ∧ m ∈ firsts asl k ∧ rd (mergeL asl k) i = entry asl k m := by
  have e := merge_eq asl k
  have h' : i < (firsts asl k).length := by rw [e, List.length_map] at h; exact h
  refine ⟨(firsts asl k)[i], firsts_lt asl k _ (List.getElem_mem h'), List.getElem_mem h', ?_⟩
  rw [e]
  exact rd_map _ _ _ h'
theorem merge_acts (asl : List ResD) (h : ∀ m, m < asl.length → (rd asl m).acts.length ≤ 1048576) (k : Nat) (hk : k ≤ asl.length) (i : Nat) (hi : i < (mergeL asl k).length) : (rd (mergeL asl k) i).acts.length ≤ k * 1048576 := by
  obtain ⟨m, _, _, e⟩ := merge_at asl k i hi
  rw [e]
  exact actsOf_len asl m h k hk
/-- no two of M have one key -/
def KU (M : List ResD) : Prop := ∀ i j, i < M.length → j < M.length → sameK (rd M i) (rd M j) = true → i = j
theorem firsts_ku (asl : List ResD) : ∀ k, (firsts asl k).Pairwise (fun i j => sameK (rd asl i) (rd asl j) = false)
  | 0 => List.Pairwise.nil
  | k + 1 => by
    unfold firsts
    split
    · exact firsts_ku asl k
    · rename_i hs
      refine List.pairwise_append.2 ⟨firsts_ku asl k, List.pairwise_singleton _ _, fun a ha b hb => ?_⟩
      have hb' := List.mem_singleton.1 hb
      subst hb'
      cases e : sameK (rd asl a) (rd asl b)
      · rfl
      · exact absurd ((seenR_iff asl b).2 ⟨a, firsts_lt asl b a ha, e⟩) hs
theorem merge_ku (asl : List ResD) (k : Nat) : KU (mergeL asl k) := by
  intro i j hi hj h
  have e := merge_eq asl k
  have hi' : i < (firsts asl k).length := by rw [e, List.length_map] at hi; exact hi
  have hj' : j < (firsts asl k).length := by rw [e, List.length_map] at hj; exact hj
  have hp := List.pairwise_iff_getElem.1 (firsts_ku asl k)
  rw [e, rd_map _ _ _ hi', rd_map _ _ _ hj'] at h
  have h' : sameK (rd asl (firsts asl k)[i]) (rd asl (firsts asl k)[j]) = true := h
  rcases Nat.lt_trichotomy i j with hlt | heq | hgt
  · rw [hp i j hi' hj' hlt] at h'
    cases h'
  · exact heq
  · rw [sameK_symm, hp j i hj' hi' hgt] at h'
    cases h'
theorem merge_key (asl : List ResD) (k i : Nat) (hk : k ≤ asl.length) (h : i < (mergeL asl k).length) : ∃ m, m < asl.length ∧ (rd (mergeL asl k) i).ty = (rd asl m).ty ∧ (rd (mergeL asl k) i).cl = (rd asl m).cl ∧ (rd (mergeL asl k) i).na = (rd asl m).na := by
  obtain ⟨m, hm, _, e⟩ := merge_at asl k i h
  rw [e]
  exact ⟨m, by omega, rfl, rfl, rfl⟩
/-- one merging step at the place where the key lies -/
theorem step_hit {M : List ResD} {r : ResD} {i : Nat} (hi : i < M.length) (h : sameK (rd M i) r = true) (hu : KU M) : (mergeStep M r).length = M.length ∧ ∀ j, j < M.length → rd (mergeStep M r) j = if j = i then addA (rd M j) r.acts else rd M j := by
  have hany : M.any (sameK · r) = true := List.any_eq_true.2 ⟨rd M i, by
    unfold rd
    rw [List.getD_eq_getElem?_getD, List.getElem?_eq_getElem hi]
    exact List.getElem_mem hi, h⟩
  unfold mergeStep
  rw [if_pos hany]
  refine ⟨by simp, fun j hj => ?_⟩
  rw [rd_map _ _ _ hj]
  have ej : M[j] = rd M j := by
    unfold rd
    rw [List.getD_eq_getElem?_getD, List.getElem?_eq_getElem hj]
    rfl
  rw [ej]
  by_cases e : j = i
  · subst e
    rw [if_pos h, if_pos rfl]
  · rw [if_neg e]
    cases hs : sameK (rd M j) r
    · rfl
    · rw [sameK_symm] at h
      exact absurd (hu j i hj hi (sameK_trans hs h)) e
theorem any_false {M : List ResD} {r : ResD} (h : M.any (sameK · r) = false) (i : Nat) (hi : i < M.length) : sameK (rd M i) r = false := by
  rw [List.any_eq_false] at h
  have := h (rd M i) (by
    unfold rd
    rw [List.getD_eq_getElem?_getD, List.getElem?_eq_getElem hi]
    exact List.getElem_mem hi)
  simpa using this
theorem any_true {M : List ResD} {r : ResD} (h : M.any (sameK · r) = true) : ∃ i, i < M.length ∧ sameK (rd M i) r = true := by
  obtain ⟨e, h1, h2⟩ := List.any_eq_true.1 h
  obtain ⟨i, hi, rfl⟩ := List.mem_iff_getElem.1 h1
  refine ⟨i, hi, ?_⟩
  unfold rd
  rw [List.getD_eq_getElem?_getD, List.getElem?_eq_getElem hi]
  exact h2
theorem step_new {M : List ResD} {r : ResD} (h : M.any (sameK · r) = false) : mergeStep M r = M ++ [r] := by
  unfold mergeStep
  rw [h]
  rfl
theorem rd_snoc (M : List ResD) (r : ResD) (j : Nat) (hj : j < M.length + 1) : rd (M ++ [r]) j = if j = M.length then r else rd M j := by
  unfold rd
  rw [List.getD_eq_getElem?_getD]
  by_cases e : j = M.length
  · rw [if_pos e, e, List.getElem?_append_right (Nat.le_refl _), Nat.sub_self]
    rfl
  · rw [if_neg e, List.getElem?_append_left (by omega), ← List.getD_eq_getElem?_getD]
end Go.Proofs.Qxb6601693aDoor
