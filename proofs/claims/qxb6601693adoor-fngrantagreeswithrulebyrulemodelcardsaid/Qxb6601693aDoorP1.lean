import Derived.Lib.Replace
import Derived.Lib.IndexBytes
import Derived.Lib.Join
import Derived.Lib.Strings
namespace Go.Proofs.Qxb6601693aDoor
open Go

theorem len_size (s : ByteArray) : s.data.toList.length = s.size := by simp
/-- "${account}" -/
def ph : List UInt8 := [36, 123, 97, 99, 99, 111, 117, 110, 116, 125]
/-- zzExpand: walk the text, an instance at the place is replaced -/
def ex (acc : List UInt8) (l : List UInt8) : List UInt8 :=
  if ph.isPrefixOf l then acc ++ ex acc (l.drop 10) else
    match l with
    | [] => []
    | b :: r => b :: ex acc r
termination_by l.length
decreasing_by
  · rename_i h
    have := (List.isPrefixOf_iff_prefix.1 h).length_le
    simp only [ph, List.length_cons, List.length_nil] at this
    rw [List.length_drop]
    omega
  · simp

theorem ex_hit {acc l : List UInt8} (h : ph.isPrefixOf l = true) : ex acc l = acc ++ ex acc (l.drop 10) := by
  rw [ex.eq_def, if_pos h]
theorem ex_nil (acc : List UInt8) : ex acc [] = [] := by
  rw [ex, if_neg (by decide)]
theorem ex_cons {acc : List UInt8} {b : UInt8} {r : List UInt8} (h : ph.isPrefixOf (b :: r) = false) : ex acc (b :: r) = b :: ex acc r := by
  rw [ex, if_neg (by rw [h]; exact Bool.false_ne_true)]

theorem ex_skip (acc : List UInt8) : ∀ (i : Nat) (l : List UInt8), i ≤ l.length → (∀ j, j < i → Lib.occAt l ph j = false) → ex acc l = l.take i ++ ex acc (l.drop i)
  | 0, l, _, _ => by simp
  | i + 1, [], h, _ => by simp at h
  | i + 1, b :: r, h, hno => by
    have h0 : ph.isPrefixOf (b :: r) = false := hno 0 (by omega)
    have ih := ex_skip acc i r (by simpa using h) (fun j hj => by simpa [Lib.occAt] using hno (j + 1) (by omega))
    rw [ex_cons h0, ih]
    rfl
theorem occ_cases (l sub : List UInt8) : (∀ j, j ≤ l.length → Lib.occAt l sub j = false) ∨ ∃ i, i ≤ l.length ∧ Lib.occAt l sub i = true ∧ ∀ j, j < i → Lib.occAt l sub j = false := by
  by_cases h : ∃ i, i ≤ l.length ∧ Lib.occAt l sub i = true
  · obtain ⟨i, hi⟩ := h
    right
    have : ∀ n, (∃ i, i ≤ n ∧ i ≤ l.length ∧ Lib.occAt l sub i = true) → ∃ i, i ≤ l.length ∧ Lib.occAt l sub i = true ∧ ∀ j, j < i → Lib.occAt l sub j = false := by
      intro n
      induction n with
      | zero => rintro ⟨i, h0, h1, h2⟩; exact ⟨i, h1, h2, fun j hj => by omega⟩
      | succ n ih =>
        rintro ⟨i, h0, h1, h2⟩
        by_cases hh : ∃ j, j ≤ n ∧ j ≤ l.length ∧ Lib.occAt l sub j = true
        · exact ih hh
        · refine ⟨i, h1, h2, fun j hj => ?_⟩
          cases hb : Lib.occAt l sub j
          · rfl
          · exact absurd ⟨j, by omega, by omega, hb⟩ hh
    exact this i ⟨i, Nat.le_refl _, hi.1, hi.2⟩
  · left
    intro j hj
    cases hb : Lib.occAt l sub j
    · rfl
    · exact absurd ⟨j, hj, hb⟩ h

theorem ex_none {acc l : List UInt8} (h : ∀ j, j ≤ l.length → Lib.occAt l ph j = false) : ex acc l = l := by
  rw [ex_skip acc l.length l (Nat.le_refl _) (fun j hj => h j (by omega)), List.drop_length, ex_nil, List.take_length, List.append_nil]
theorem ex_first {acc l : List UInt8} {i : Nat} (hi : i ≤ l.length) (h : Lib.occAt l ph i = true) (hno : ∀ j, j < i → Lib.occAt l ph j = false) : ex acc l = l.take i ++ acc ++ ex acc (l.drop (i + 10)) := by
  rw [ex_skip acc i l hi hno, ex_hit h, List.drop_drop, List.append_assoc]

theorem ex_same : ∀ (n : Nat) (l : List UInt8), l.length ≤ n → ex ph l = l
  | 0, l, h => by
    obtain rfl : l = [] := List.length_eq_zero_iff.1 (by omega)
    exact ex_nil _
  | n + 1, l, hl => by
    rcases occ_cases l ph with h | ⟨i, hi, h, hno⟩
    · exact ex_none h
    · have hp := List.isPrefixOf_iff_prefix.1 h
      obtain ⟨t, ht⟩ := hp
      have hd : l.drop (i + 10) = t := by
        rw [← List.drop_drop, ← ht]
        rfl
      have hlen := congrArg List.length ht
      rw [List.length_append, List.length_drop] at hlen
      have e10 : ph.length = 10 := rfl
      rw [ex_first hi h hno, hd, ex_same n t (by omega), List.append_assoc, ht, List.take_append_drop]

theorem ex_replaceK {acc : List UInt8} : ∀ (n : Nat) (l : List UInt8), l.length ≤ n → ex acc l = Lib.replaceK ph acc (Lib.count l ph) l
  | n, l, hl => by
    rcases occ_cases l ph with h | ⟨i, hi, h, hno⟩
    · rw [ex_none h, Lib.count_miss (Lib.index_none h)]
      rfl
    · have hix := Lib.index_first hi h hno
      have hroom : i + 10 ≤ l.length := by
        rcases Lib.occAt_room h with h | h
        · exact h
        · exact absurd h (by decide)
      match n, hl with
      | 0, hl => omega
      | n + 1, hl =>
        have ih := ex_replaceK (acc := acc) n (l.drop (i + 10)) (by rw [List.length_drop]; omega)
        rw [ex_first hi h hno, ih, Lib.count_hit (by decide) hix, Nat.add_comm 1, Lib.replaceK_hit _ _ _ _ _ hix]
        rfl
theorem ex_eq (acc l : List UInt8) : Lib.replaceAll l ph acc = ex acc l := by
  unfold Lib.replaceAll Lib.replace
  split
  · rename_i h
    obtain rfl : ph = acc := by simpa using h
    exact (ex_same _ l (Nat.le_refl _)).symm
  · have : Lib.replaceNum l ph (-1) = Lib.count l ph := by unfold Lib.replaceNum; rw [if_pos (by omega)]
    rw [this]
    exact (ex_replaceK _ l (Nat.le_refl _)).symm
theorem ex_length (acc : List UInt8) : ∀ (n : Nat) (l : List UInt8), l.length ≤ n → (ex acc l).length ≤ l.length * (acc.length + 1)
  | 0, l, h => by
    obtain rfl : l = [] := List.length_eq_zero_iff.1 (by omega)
    rw [ex_nil]; simp
  | n + 1, l, hl => by
    cases hp : ph.isPrefixOf l
    · cases l with
      | nil => rw [ex_nil]; simp
      | cons b r =>
        rw [ex_cons hp]
        have := ex_length acc n r (by simpa using hl)
        simp only [List.length_cons]
        rw [Nat.add_mul]
        omega
    · rw [ex_hit hp, List.length_append]
      have h10 := (List.isPrefixOf_iff_prefix.1 hp).length_le
      have e10 : ph.length = 10 := rfl
      have := ex_length acc n (l.drop 10) (by rw [List.length_drop]; omega)
      rw [List.length_drop] at this
      have e : l.length * (acc.length + 1) = (l.length - 10) * (acc.length + 1) + 10 * (acc.length + 1) := by rw [← Nat.add_mul]; congr 1; omega
      omega

/- ---- the match ---- -/
def gstep (n : List UInt8) (st : Option Nat) (seg : List UInt8) : Option Nat :=
  match st with
  | none => none
  | some e => if Lib.index (n.drop e) seg < 0 then none else some (e + (Lib.index (n.drop e) seg).toNat + seg.length)
def gr (n : List UInt8) (segs : List (List UInt8)) : Nat → Option Nat
  | 0 => some (segs.getD 0 []).length
  | j + 1 => gstep n (gr n segs j) (segs.getD (j + 1) [])
def fin (n last : List UInt8) : Option Nat → Bool
  | none => false
  | some e => Lib.hasSuffix (n.drop e) last
def matchL (n : List UInt8) (segs : List (List UInt8)) : Bool :=
  if segs.length < 2 then n == segs.getD 0 [] else Lib.hasPrefix n (segs.getD 0 []) && fin n (segs.getD (segs.length - 1) []) (gr n segs (segs.length - 2))

theorem gr_none {n : List UInt8} {segs : List (List UInt8)} {j : Nat} (h : gr n segs j = none) : ∀ k, j ≤ k → gr n segs k = none
  | 0, hk => by obtain rfl : j = 0 := by omega
                exact h
  | k + 1, hk => by
    by_cases e : j = k + 1
    · rw [← e]; exact h
    · show gstep n (gr n segs k) _ = none
      rw [gr_none h k (by omega)]
      rfl

def occB (n seg : List UInt8) (q : Nat) : Bool := decide (q + seg.length ≤ n.length) && ((n.drop q).take seg.length == seg)
theorem occB_iff (n seg : List UInt8) (e i : Nat) (hi : e + i ≤ n.length) : Lib.occAt (n.drop e) seg i = occB n seg (e + i) := by
  unfold Lib.occAt occB
  rw [Bool.eq_iff_iff, List.drop_drop, List.isPrefixOf_iff_prefix, List.prefix_iff_eq_take]
  simp only [Bool.and_eq_true, decide_eq_true_eq, beq_iff_eq]
  constructor
  · intro h
    have := congrArg List.length h
    rw [List.length_take, List.length_drop] at this
    exact ⟨by omega, h.symm⟩
  · exact fun h => h.2.symm
def seenB (st : Option Nat) (q : Nat) : Bool :=
  match st with
  | none => false
  | some e => decide (e < q)
/-- the row 'next' when the places before q have been tried -/
def nextF (n : List UInt8) (st : Option Nat) (seg : List UInt8) (q p : Nat) : Bool := decide (seg.length ≤ p) && decide (p - seg.length < q) && seenB st (p - seg.length + 1) && occB n seg (p - seg.length)
def RowIs (n : List UInt8) (st : Option Nat) (f : Nat → Bool) : Prop := match st with
  | none => ∀ q, q ≤ n.length → f q = false
  | some e => e ≤ n.length ∧ f e = true ∧ ∀ q, q < e → f q = false

theorem nextF_zero (n : List UInt8) (st : Option Nat) (seg : List UInt8) (p : Nat) : nextF n st seg 0 p = false := by unfold nextF; simp
theorem nextF_hit {n : List UInt8} {st : Option Nat} {seg : List UInt8} {q : Nat} (h : (seenB st (q + 1) && occB n seg q) = true) (p : Nat) : nextF n st seg (q + 1) p = if p = q + seg.length then true else nextF n st seg q p := by
  unfold nextF
  split
  · rename_i e
    subst e
    simp only [Nat.add_sub_cancel]
    simp only [Bool.and_eq_true] at h
    simp [h.1, h.2]
  · rename_i e
    have : (decide (seg.length ≤ p) && decide (p - seg.length < q + 1)) = (decide (seg.length ≤ p) && decide (p - seg.length < q)) := by
      rw [Bool.eq_iff_iff]
      simp only [Bool.and_eq_true, decide_eq_true_eq]
      omega
    rw [this]
theorem nextF_miss {n : List UInt8} {st : Option Nat} {seg : List UInt8} {q : Nat} (h : (seenB st (q + 1) && occB n seg q) = false) (p : Nat) : nextF n st seg (q + 1) p = nextF n st seg q p := by
  unfold nextF
  by_cases e : p = q + seg.length
  · subst e
    simp only [Nat.add_sub_cancel, Nat.lt_irrefl, decide_false, Bool.and_false, Bool.false_and]
    rw [Bool.and_assoc, h]
    simp
  · have : (decide (seg.length ≤ p) && decide (p - seg.length < q + 1)) = (decide (seg.length ≤ p) && decide (p - seg.length < q)) := by
      rw [Bool.eq_iff_iff]
      simp only [Bool.and_eq_true, decide_eq_true_eq]
      omega
    rw [this]
theorem row_seen {n : List UInt8} {st : Option Nat} {f : Nat → Bool} (h : RowIs n st f) (q : Nat) (hq : q ≤ n.length) : seenB st (q + 1) = (seenB st q || f q) := by
  cases st with
  | none => rw [h q hq]; rfl
  | some e =>
    obtain ⟨h1, h2, h3⟩ := h
    show decide (e < q + 1) = (decide (e < q) || f q)
    by_cases h4 : q < e
    · rw [h3 q h4]
      rw [Bool.eq_iff_iff]; simp; omega
    · by_cases h5 : q = e
      · subst h5; rw [h2]; simp
      · rw [decide_eq_true (show e < q by omega), decide_eq_true (show e < q + 1 by omega)]; rfl
theorem row_next {n : List UInt8} {st : Option Nat} {seg : List UInt8} (hst : ∀ e, st = some e → e ≤ n.length) : RowIs n (gstep n st seg) (nextF n st seg (n.length + 1)) := by
  cases st with
  | none =>
    intro q hq
    unfold nextF seenB
    simp
  | some e =>
    have he := hst e rfl
    have hlen : (n.drop e).length = n.length - e := List.length_drop
    have hnx : ∀ p, nextF n (some e) seg (n.length + 1) p = true ↔ seg.length ≤ p ∧ e ≤ p - seg.length ∧ occB n seg (p - seg.length) = true := fun p => by
      unfold nextF seenB
      simp only [Bool.and_eq_true, decide_eq_true_eq]
      constructor
      · rintro ⟨⟨⟨h1, _⟩, h2⟩, h3⟩
        exact ⟨h1, by omega, h3⟩
      · rintro ⟨h1, h2, h3⟩
        refine ⟨⟨⟨h1, ?_⟩, by omega⟩, h3⟩
        unfold occB at h3
        simp only [Bool.and_eq_true, decide_eq_true_eq] at h3
        omega
    rcases occ_cases (n.drop e) seg with h | ⟨i, hi, h, hno⟩
    · have hg : gstep n (some e) seg = none := by
        show (if Lib.index (n.drop e) seg < 0 then none else _) = none
        rw [Lib.index_none h, if_pos (by decide)]
      rw [hg]
      intro p hp
      cases hb : nextF n (some e) seg (n.length + 1) p
      · rfl
      · obtain ⟨h1, h2, h3⟩ := (hnx p).1 hb
        have h4 := occB_iff n seg e (p - seg.length - e) (by omega)
        rw [show e + (p - seg.length - e) = p - seg.length by omega, h3, h _ (by omega)] at h4
        cases h4
    · rw [hlen] at hi
      have hix := Lib.index_first (by rw [hlen]; exact hi) h hno
      have hg : gstep n (some e) seg = some (e + i + seg.length) := by
        show (if Lib.index (n.drop e) seg < 0 then none else _) = _
        rw [hix, if_neg (by omega), Int.toNat_natCast]
      rw [hg]
      have ho : occB n seg (e + i) = true := by rw [← occB_iff n seg e i (by omega)]; exact h
      have hr : e + i + seg.length ≤ n.length := by
        have := ho
        unfold occB at this
        simp only [Bool.and_eq_true, decide_eq_true_eq] at this
        exact this.1
      refine ⟨hr, (hnx _).2 ⟨by omega, by omega, by rw [Nat.add_sub_cancel]; exact ho⟩, fun p hp => ?_⟩
      cases hb : nextF n (some e) seg (n.length + 1) p
      · rfl
      · obtain ⟨h1, h2, h3⟩ := (hnx p).1 hb
        have h4 := occB_iff n seg e (p - seg.length - e) (by omega)
        rw [show e + (p - seg.length - e) = p - seg.length by omega, h3, hno _ (by omega)] at h4
        cases h4
theorem gstep_le {n : List UInt8} {st : Option Nat} {seg : List UInt8} (hst : ∀ e, st = some e → e ≤ n.length) : ∀ e, gstep n st seg = some e → e ≤ n.length := fun e h => by
  have := row_next (seg := seg) hst
  rw [h] at this
  exact this.1
/-- the last segment -/
theorem fin_iff {n last : List UInt8} {st : Option Nat} {f : Nat → Bool} (h : RowIs n st f) : fin n last st = true ↔ last.length ≤ n.length ∧ n.drop (n.length - last.length) = last ∧ ∃ p, p ≤ n.length - last.length ∧ f p = true := by
  cases st with
  | none =>
    constructor
    · intro h; cases h
    · rintro ⟨h1, h2, p, h3, h4⟩
      rw [h p (by omega)] at h4
      cases h4
  | some e =>
    obtain ⟨h1, h2, h3⟩ := h
    show Lib.hasSuffix (n.drop e) last = true ↔ _
    unfold Lib.hasSuffix
    rw [List.isSuffixOf_iff_suffix, List.suffix_iff_eq_drop, List.length_drop, List.drop_drop]
    constructor
    · intro h4
      have h5 := congrArg List.length h4
      rw [List.length_drop] at h5
      refine ⟨by omega, ?_, e, by omega, h2⟩
      rw [show n.length - last.length = e + (n.length - e - last.length) by omega]
      exact h4.symm
    · rintro ⟨h4, h5, p, h6, h7⟩
      have : e ≤ p := Nat.le_of_not_lt fun hlt => by rw [h3 p hlt] at h7; cases h7
      rw [show e + (n.length - e - last.length) = n.length - last.length by omega]
      exact h5.symm
end Go.Proofs.Qxb6601693aDoor
