import Derived.Test.Qxb6601006aDoorP2
namespace Go.Proofs.Qxb6601006aDoor

theorem at0_app_l (a b : List UInt8) (j : Nat) (h : j < a.length) : at0 (a ++ b) j = at0 a j := by
  unfold at0
  rw [List.getD_eq_getElem?_getD, List.getD_eq_getElem?_getD, List.getElem?_append_left h]
theorem at0_app_r (a b : List UInt8) (j : Nat) : at0 (a ++ b) (a.length + j) = at0 b j := by
  unfold at0
  rw [List.getD_eq_getElem?_getD, List.getD_eq_getElem?_getD, List.getElem?_append_right (Nat.le_add_right _ _), Nat.add_sub_cancel_left]

theorem letter_word (c k : Int) (hk : 97 ≤ k ∧ k ≤ 122) (h : lowI c = k) : wordB c = true ∧ spaceB c = false := by
  have hc : (97 ≤ c ∧ c ≤ 122) ∨ (65 ≤ c ∧ c ≤ 90) := by
    unfold lowI at h
    split at h <;> omega
  refine ⟨(word_of c).2 (by omega), ?_⟩
  rw [← Bool.not_eq_true, space_of]
  omega

def isKwList (kw : List UInt8) : Prop := kw = [98, 101, 103, 105, 110] ∨ kw = [116, 104, 101, 110] ∨ kw = [101, 108, 115, 101] ∨ kw = [108, 111, 111, 112]
theorem kw_letters {kw : List UInt8} (h : isKwList kw) : ∀ j, j < kw.length → 97 ≤ at0 kw j ∧ at0 kw j ≤ 122 := by
  rcases h with rfl | rfl | rfl | rfl <;> decide
theorem kw_pos {kw : List UInt8} (h : isKwList kw) : 0 < kw.length ∧ kw.length ≤ 5 := by
  rcases h with rfl | rfl | rfl | rfl <;> decide
theorem kw_isKw {kw x : List UInt8} (h : isKwList kw) (hx : foldBy lowI x kw = true) : isKw lowI x = true := by
  unfold isKw
  rcases h with rfl | rfl | rfl | rfl <;> simp [hx]

theorem accepts_law (p x b kw : List UInt8) (hkw : isKwList kw) (hl : x.length = kw.length) (hx : ∀ j, j < x.length → lowI (at0 x j) = at0 kw j) (hb : ∀ j, j < b.length → spaceB (at0 b j) = true) (hp : p = [] ∨ wordB (at0 p (p.length - 1)) = false) :
    modelF (p ++ x ++ b) = true := by
  have hpos := kw_pos hkw
  have hlen : (p ++ x ++ b).length = p.length + x.length + b.length := by rw [List.length_append, List.length_append]
  have hmid : ∀ i, i < x.length → wordB (at0 (p ++ x ++ b) (p.length + i)) = true ∧ spaceB (at0 (p ++ x ++ b) (p.length + i)) = false := fun i hi => by
    rw [at0_app_l _ _ _ (by rw [List.length_append]; omega), at0_app_r]
    exact letter_word _ _ (kw_letters hkw i (by omega)) (hx i hi)
  have hend : ∀ j, p.length + x.length ≤ j → j < (p ++ x ++ b).length → spaceB (at0 (p ++ x ++ b) j) = true := fun j h1 h2 => by
    obtain ⟨i, rfl⟩ : ∃ i, j = (p ++ x).length + i := ⟨j - (p.length + x.length), by rw [List.length_append]; omega⟩
    rw [at0_app_r]
    exact hb i (by rw [hlen, List.length_append] at h2; omega)
  obtain ⟨m, h1, h2, h3, h4⟩ := last_spec (p ++ x ++ b) (p ++ x ++ b).length
  have hm : m = p.length + x.length := by
    rcases Nat.lt_trichotomy m (p.length + x.length) with h | h | h
    · have := h3 (p.length + (x.length - 1)) (by omega) (by omega)
      rw [(hmid (x.length - 1) (by omega)).2] at this
      cases this
    · exact h
    · have := (h4 (by omega)).1
      rw [hend (m - 1) (by omega) (by omega)] at this
      cases this
  subst hm
  obtain ⟨_, h6, h7⟩ := h4 (by omega)
  rw [modelF_pos _ (p.length + (x.length - 1)) (by rw [h2]; omega), h7, (hmid (x.length - 1) (by omega)).1]
  have hr : runTo (p ++ x ++ b) (p.length + x.length) = p.length := by
    refine runTo_eq _ _ _ (by omega) (fun j a c => ?_) ?_
    · obtain ⟨i, rfl⟩ : ∃ i, j = p.length + i := ⟨j - p.length, by omega⟩
      exact (hmid i (by omega)).1
    · rcases hp with rfl | hp
      · exact .inl rfl
      · by_cases hz : p.length = 0
        · exact .inl hz
        · refine .inr ?_
          rw [List.append_assoc, at0_app_l _ _ _ (by omega)]
          exact hp
  have hw : wordAt (p ++ x ++ b) (runTo (p ++ x ++ b) (p.length + x.length)) (p.length + (x.length - 1)) = x := by
    unfold wordAt
    rw [hr, List.append_assoc, List.drop_left, show p.length + (x.length - 1) + 1 - p.length = x.length by omega, List.take_left]
  rw [hw, kw_same, kw_isKw hkw (foldBy_yes hl hx)]
  simp
end Go.Proofs.Qxb6601006aDoor
