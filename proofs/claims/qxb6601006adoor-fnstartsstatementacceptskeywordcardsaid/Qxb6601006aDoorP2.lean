import Derived.Test.Qxb6601006aDoorP1
import Derived.Lib.SlTrimSet
import Derived.Lib.IndexMore
import Derived.Lib.LastIndexByte
namespace Go.Proofs.Qxb6601006aDoor
open Go.RowKit

/-- what startsStatement answers, of the trimmed text t -/
def startsT (t : List UInt8) (ln : List UInt8) : Bool :=
  if t.isEmpty then true
  else if !wordB (at0 t (t.length - 1)) && !(at0 t (t.length - 1) == 34 && decide (1 < t.length) && wordB (at0 t (t.length - 2))) then true
  else if Lib.contains ln [45, 45] then true
  else if at0 t (t.length - 1) == 34 && decide (1 < t.length) && wordB (at0 t (t.length - 2)) then false
  else isKw lowI (t.drop (runTo t t.length))

/- ---- bytes ---- -/
theorem at0_cons (b : UInt8) (l : List UInt8) (i : Nat) : at0 (b :: l) (i + 1) = at0 l i := rfl
theorem at0_get (l : List UInt8) (j : Nat) (h : j < l.length) : at0 l j = (l[j].toNat : Int) := by
  unfold at0
  rw [List.getD_eq_getElem?_getD, List.getElem?_eq_getElem h]
  rfl
theorem at0_take (l : List UInt8) (m j : Nat) (h : j < m) : at0 (l.take m) j = at0 l j := by
  unfold at0
  rw [List.getD_eq_getElem?_getD, List.getD_eq_getElem?_getD, List.getElem?_take_of_lt h]
theorem at0_drop (l : List UInt8) (m j : Nat) : at0 (l.drop m) j = at0 l (m + j) := by
  unfold at0
  rw [List.getD_eq_getElem?_getD, List.getD_eq_getElem?_getD, List.getElem?_drop]

theorem lsTo_take (l : List UInt8) (m : Nat) : ∀ k, k ≤ m → lsTo (l.take m) k = lsTo l k
  | 0, _ => rfl
  | k + 1, h => by
    unfold lsTo
    rw [at0_take l m k (by omega), lsTo_take l m k (by omega)]
theorem dashTo_take (l : List UInt8) (m : Nat) : ∀ k, k ≤ m → dashTo (l.take m) k = dashTo l k
  | 0, _ => rfl
  | k + 1, h => by
    unfold dashTo
    rw [at0_take l m k (by omega), at0_take l m (k - 1) (by omega), lsTo_take l m (k + 1) h, dashTo_take l m k (by omega)]
theorem runTo_take (l : List UInt8) (m : Nat) : ∀ k, k ≤ m → runTo (l.take m) k = runTo l k
  | 0, _ => rfl
  | k + 1, h => by
    unfold runTo
    rw [at0_take l m k (by omega), runTo_take l m k (by omega)]

/- ---- the run ---- -/
theorem runTo_eq (l : List UInt8) (k : Nat) : ∀ m, k ≤ m → (∀ j, k ≤ j → j < m → wordB (at0 l j) = true) → (k = 0 ∨ wordB (at0 l (k - 1)) = false) → runTo l m = k
  | 0, h, _, _ => by
    obtain rfl : k = 0 := by omega
    rfl
  | m + 1, h, hw, he => by
    by_cases hk : k = m + 1
    · subst hk
      rcases he with he | he
      · omega
      · unfold runTo
        rw [Nat.add_sub_cancel] at he
        rw [he]
        rfl
    · unfold runTo
      rw [hw m (by omega) (by omega), if_pos rfl]
      exact runTo_eq l k m (by omega) (fun j h1 h2 => hw j h1 (by omega)) he

/- ---- the last place ---- -/
theorem last_spec (l : List UInt8) : ∀ n : Nat, ∃ m, m ≤ n ∧ lastTo l n = (m : Int) - 1 ∧ (∀ j, m ≤ j → j < n → spaceB (at0 l j) = true) ∧ (0 < m → spaceB (at0 l (m - 1)) = false ∧ ldTo l n = dashTo l m ∧ lrTo l n = runTo l m)
  | 0 => ⟨0, Nat.le_refl _, rfl, fun j _ h => absurd h (Nat.not_lt_zero _), fun h => absurd h (Nat.lt_irrefl _)⟩
  | n + 1 => by
    obtain ⟨m, h1, h2, h3, h4⟩ := last_spec l n
    cases hs : spaceB (at0 l n)
    · refine ⟨n + 1, Nat.le_refl _, ?_, fun j a b => by omega, fun _ => ⟨by simpa using hs, ?_, ?_⟩⟩
      · unfold lastTo; rw [hs]; simp
      · rw [ldTo, hs]; simp
      · rw [lrTo, hs]; simp
    · refine ⟨m, by omega, ?_, fun j a b => ?_, fun h => ⟨(h4 h).1, ?_, ?_⟩⟩
      · unfold lastTo; rw [hs, if_pos rfl]; exact h2
      · by_cases e : j = n
        · subst e; exact hs
        · exact h3 j a (by omega)
      · rw [ldTo, hs, if_pos rfl]; exact (h4 h).2.1
      · rw [lrTo, hs, if_pos rfl]; exact (h4 h).2.2

def wsB : List UInt8 := [32, 9, 10, 13, 12, 11]
theorem ws_space : ∀ n : Fin 256, wsB.contains (UInt8.ofNat n.val) = spaceB (n.val : Int) := by decide +kernel
theorem ws_space' (b : UInt8) : wsB.contains b = spaceB (b.toNat : Int) := by
  have := ws_space ⟨b.toNat, b.toNat_lt⟩
  simpa using this

theorem trim_eq (l : List UInt8) (m : Nat) (hm : m ≤ l.length) (h1 : ∀ j, m ≤ j → j < l.length → spaceB (at0 l j) = true) (h2 : 0 < m → spaceB (at0 l (m - 1)) = false) : Lib.trimRightS l wsB = l.take m := by
  refine Lib.trimRightS_take l wsB m hm (fun j b hj hb => ?_) (fun b h0 hb => ?_)
  · obtain ⟨hlt, rfl⟩ := List.getElem?_eq_some_iff.1 hb
    rw [ws_space', ← at0_get l j hlt]
    exact h1 j hj hlt
  · obtain ⟨hlt, rfl⟩ := List.getElem?_eq_some_iff.1 hb
    rw [ws_space', ← at0_get l (m - 1) hlt]
    exact h2 h0

/- ---- the double dash ---- -/
theorem occ2 : ∀ (s : List UInt8) (i : Nat), Lib.occAt s [45, 45] i = true ↔ (i + 1 < s.length ∧ at0 s i = 45 ∧ at0 s (i + 1) = 45)
  | [], i => by simp [Lib.occAt]
  | [a], 0 => by simp [Lib.occAt, List.isPrefixOf]
  | a :: b :: l, 0 => by
    have e1 : at0 (a :: b :: l) 0 = (a.toNat : Int) := rfl
    have e2 : at0 (a :: b :: l) 1 = (b.toNat : Int) := rfl
    have f : ∀ x : UInt8, (45 : UInt8) = x ↔ (x.toNat : Int) = 45 := fun x => by
      constructor
      · rintro rfl; rfl
      · intro h; exact UInt8.toNat_inj.1 (by show 45 = _; omega)
    simp [Lib.occAt, List.isPrefixOf, e1, e2, f]
  | a :: l, i + 1 => by
    have := occ2 l i
    have e : Lib.occAt (a :: l) [45, 45] (i + 1) = Lib.occAt l [45, 45] i := rfl
    rw [e, this, at0_cons, at0_cons, List.length_cons]
    omega

theorem contains2 (s : List UInt8) : Lib.contains s [45, 45] = true ↔ ∃ i, i + 1 < s.length ∧ at0 s i = 45 ∧ at0 s (i + 1) = 45 := by
  unfold Lib.contains
  rw [decide_eq_true_eq]
  rcases Lib.index_spec s [45, 45] with ⟨h1, h2⟩ | ⟨i, h1, h2, h3, _⟩
  · rw [h1]
    constructor
    · intro h; omega
    · rintro ⟨i, hi⟩
      have := h2 i (by omega)
      rw [(occ2 s i).2 hi] at this
      cases this
  · rw [h1]
    constructor
    · intro _; exact ⟨i, (occ2 s i).1 h3⟩
    · intro _; omega

theorem dash_spec (l : List UInt8) : ∀ k, dashTo l k = true ↔ ∃ j, lsTo l k ≤ j ∧ j + 1 < k ∧ at0 l j = 45 ∧ at0 l (j + 1) = 45
  | 0 => by simp [dashTo]
  | k + 1 => by
    have ih := dash_spec l k
    unfold dashTo
    by_cases hc : at0 l k = 45
    · have hls : lsTo l (k + 1) = lsTo l k := by rw [lsTo, hc]; rfl
      rw [hls, hc]
      by_cases hx : lsTo l k < k ∧ at0 l (k - 1) = 45
      · have e : (((45 : Int) == 45) && decide (lsTo l k < k) && at0 l (k - 1) == 45) = true := by simp [hx]
        rw [e, if_pos rfl]
        constructor
        · intro _
          exact ⟨k - 1, by omega, by omega, hx.2, by rw [show k - 1 + 1 = k by omega]; exact hc⟩
        · intro _; rfl
      · have e : (((45 : Int) == 45) && decide (lsTo l k < k) && at0 l (k - 1) == 45) = false := by
          rw [Bool.eq_false_iff]
          intro h
          simp only [Bool.and_eq_true, decide_eq_true_eq, beq_iff_eq] at h
          exact hx ⟨h.1.2, h.2⟩
        rw [e]
        rw [show (if false = true then true else if ((45 : Int) == 10) = true then false else dashTo l k) = dashTo l k from rfl, ih]
        constructor
        · rintro ⟨j, a, b, c, d⟩; exact ⟨j, a, by omega, c, d⟩
        · rintro ⟨j, a, b, c, d⟩
          by_cases hj : j + 1 = k
          · exact absurd ⟨by omega, by rw [show k - 1 = j by omega]; exact c⟩ hx
          · exact ⟨j, a, by omega, c, d⟩
    · have e : (at0 l k == 45) = false := by simpa using hc
      rw [e]
      by_cases hn : at0 l k = 10
      · have hls : lsTo l (k + 1) = k + 1 := by unfold lsTo; rw [hn]; rfl
        rw [hls, hn]
        constructor
        · intro h; simp at h
        · rintro ⟨j, a, b, _⟩; omega
      · have e2 : (at0 l k == 10) = false := by simpa using hn
        have hls : lsTo l (k + 1) = lsTo l k := by rw [lsTo, e2]; rfl
        rw [e2, hls]
        simp only [Bool.false_and, Bool.false_eq_true, if_false]
        rw [ih]
        constructor
        · rintro ⟨j, a, b, c, d⟩; exact ⟨j, a, by omega, c, d⟩
        · rintro ⟨j, a, b, c, d⟩
          by_cases hj : j + 1 = k
          · rw [hj] at d; exact absurd d hc
          · exact ⟨j, a, by omega, c, d⟩

theorem dash_contains (t : List UInt8) : Lib.contains (t.drop (lsTo t t.length)) [45, 45] = dashTo t t.length := by
  rw [Bool.eq_iff_iff, contains2, dash_spec]
  have := lsTo_le t t.length
  constructor
  · rintro ⟨i, a, b, c⟩
    rw [List.length_drop] at a
    rw [at0_drop] at b c
    exact ⟨lsTo t t.length + i, by omega, by omega, b, by rw [Nat.add_assoc]; exact c⟩
  · rintro ⟨j, a, b, c, d⟩
    refine ⟨j - lsTo t t.length, by rw [List.length_drop]; omega, ?_, ?_⟩
    · rw [at0_drop, show lsTo t t.length + (j - lsTo t t.length) = j by omega]; exact c
    · rw [at0_drop, show lsTo t t.length + (j - lsTo t t.length + 1) = j + 1 by omega]; exact d

/- ---- the last newline ---- -/
theorem lastIdx_ls (s : ByteArray) : ∀ k, k ≤ s.size → Lib.lastIdx s 10 k + 1 = lsTo s.data.toList k
  | 0, _ => rfl
  | k + 1, h => by
    have ih := lastIdx_ls s k (by omega)
    have e : (s.data[k]!.toNat : Int) = at0 s.data.toList k := by
      rw [at0_of s k (by omega), getElem!_pos s.data k (show k < s.data.size from h)]
      rfl
    unfold Lib.lastIdx lsTo
    rw [e]
    by_cases hc : at0 s.data.toList k = 10
    · rw [if_pos hc, hc]; simp
    · rw [if_neg hc, ih]
      have : (at0 s.data.toList k == 10) = false := by simpa using hc
      rw [this]; simp
theorem lastIndex_ls (s : ByteArray) : Lib.lastIndexByte s 10 + 1 = lsTo s.data.toList s.size := lastIdx_ls s s.size (Nat.le_refl _)

/- ---- the two foldings ---- -/
theorem fold2 : ∀ n : Fin 256, (if 97 ≤ orI (n.val : Int) ∧ orI (n.val : Int) ≤ 122 then lowI (n.val : Int) = orI (n.val : Int) else ¬ (97 ≤ lowI (n.val : Int) ∧ lowI (n.val : Int) ≤ 122)) := by decide +kernel
theorem fold2' (c k : Int) (h0 : 0 ≤ c) (h1 : c < 256) (hk : 97 ≤ k ∧ k ≤ 122) : orI c = k ↔ lowI c = k := by
  have := fold2 ⟨c.toNat, by omega⟩
  simp only [Int.toNat_of_nonneg h0] at this
  split at this
  · rw [this]
  · rename_i hn
    constructor
    · intro h; rw [h] at hn; exact absurd hk hn
    · intro h; rw [h] at this; exact absurd hk this
theorem fold_same (l kw : List UInt8) (hk : ∀ j, j < kw.length → 97 ≤ at0 kw j ∧ at0 kw j ≤ 122) : foldBy orI l kw = foldBy lowI l kw := by
  rw [Bool.eq_iff_iff]
  unfold foldBy
  rw [decide_eq_true_eq, decide_eq_true_eq]
  constructor
  · rintro ⟨h, h2⟩
    exact ⟨h, fun j hj => (fold2' _ _ (at0_lo l j) (at0_hi l j) (hk j (by omega))).1 (h2 j hj)⟩
  · rintro ⟨h, h2⟩
    exact ⟨h, fun j hj => (fold2' _ _ (at0_lo l j) (at0_hi l j) (hk j (by omega))).2 (h2 j hj)⟩
theorem kw_same (l : List UInt8) : isKw orI l = isKw lowI l := by
  unfold isKw
  rw [fold_same l _ (by decide), fold_same l _ (by decide), fold_same l _ (by decide), fold_same l _ (by decide)]

/- ---- the law ---- -/
theorem law (l : List UInt8) : startsT (Lib.trimRightS l wsB) ((Lib.trimRightS l wsB).drop (lsTo (Lib.trimRightS l wsB) (Lib.trimRightS l wsB).length)) = modelF l := by
  obtain ⟨m, h1, h2, h3, h4⟩ := last_spec l l.length
  rw [trim_eq l m h1 h3 (fun h => (h4 h).1)]
  have hlen : (l.take m).length = m := by rw [List.length_take]; omega
  cases m with
  | zero =>
    rw [modelF_neg l (by rw [h2]; omega)]
    rfl
  | succ m =>
    obtain ⟨h5, h6, h7⟩ := h4 (by omega)
    have hdc := dash_contains (l.take (m + 1))
    rw [hlen] at hdc ⊢
    rw [modelF_pos l m (by rw [h2]; omega), h6, h7, kw_same]
    unfold startsT wordAt
    have he : (l.take (m + 1)).isEmpty = false := by
      cases hx : l.take (m + 1) with
      | nil => rw [hx] at hlen; cases hlen
      | cons a b => rfl
    have hq : decide (1 < m + 1) = decide (0 < m) := by simp
    rw [hdc, dashTo_take l (m + 1) (m + 1) (Nat.le_refl _), hlen, he, Nat.add_sub_cancel, at0_take l (m + 1) m (by omega), show m + 1 - 2 = m - 1 by omega, at0_take l (m + 1) (m - 1) (by omega), runTo_take l (m + 1) (m + 1) (Nat.le_refl _), hq, List.drop_take]
    generalize dashTo l (m + 1) = D
    generalize isKw lowI (List.take (m + 1 - runTo l (m + 1)) (List.drop (runTo l (m + 1)) l)) = K
    cases hW : wordB (at0 l m)
    · cases (at0 l m == 34 && decide (0 < m) && wordB (at0 l (m - 1))) <;> cases D <;> rfl
    · have h34 : (at0 l m == 34) = false := by
        rw [beq_eq_false_iff_ne]
        intro h
        rw [h] at hW
        exact absurd hW (by decide)
      rw [h34]
      cases D <;> rfl

end Go.Proofs.Qxb6601006aDoor
