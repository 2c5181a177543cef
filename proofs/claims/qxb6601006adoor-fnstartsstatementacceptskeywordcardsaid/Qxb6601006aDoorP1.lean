import Derived.Test.Qxb6601006aDoorW2
namespace Go.Proofs.Qxb6601006aDoor

/-- where the line begins in which place k lies -/
def lsTo (l : List UInt8) : Nat → Nat
  | 0 => 0
  | k + 1 => if at0 l k == 10 then k + 1 else lsTo l k
/-- a double dash on that line ahead of place k -/
def dashTo (l : List UInt8) : Nat → Bool
  | 0 => false
  | k + 1 => if at0 l k == 45 && decide (lsTo l (k + 1) < k) && at0 l (k - 1) == 45 then true else if at0 l k == 10 then false else dashTo l k
/-- where the run of word bytes that ends at place k begins -/
def runTo (l : List UInt8) : Nat → Nat
  | 0 => 0
  | k + 1 => if wordB (at0 l k) then runTo l k else k + 1
/-- the last place ahead of k that holds no space -/
def lastTo (l : List UInt8) : Nat → Int
  | 0 => -1
  | k + 1 => if spaceB (at0 l k) then lastTo l k else k
def ldTo (l : List UInt8) : Nat → Bool
  | 0 => false
  | k + 1 => if spaceB (at0 l k) then ldTo l k else dashTo l (k + 1)
def lrTo (l : List UInt8) : Nat → Nat
  | 0 => 0
  | k + 1 => if spaceB (at0 l k) then lrTo l k else runTo l (k + 1)
def modelF (l : List UInt8) : Bool :=
  if lastTo l l.length < 0 then true
  else if ldTo l l.length then true
  else if wordB (at0 l (lastTo l l.length).toNat) then isKw orI ((l.take ((lastTo l l.length).toNat + 1)).drop (lrTo l l.length))
  else !(at0 l (lastTo l l.length).toNat == 34 && decide (0 < lastTo l l.length) && wordB (at0 l ((lastTo l l.length).toNat - 1)))

theorem lsTo_le (l : List UInt8) : ∀ k, lsTo l k ≤ k
  | 0 => Nat.le_refl _
  | k + 1 => by
    unfold lsTo
    split
    · exact Nat.le_refl _
    · have := lsTo_le l k; omega
theorem runTo_le (l : List UInt8) : ∀ k, runTo l k ≤ k
  | 0 => Nat.le_refl _
  | k + 1 => by
    unfold runTo
    split
    · have := runTo_le l k; omega
    · exact Nat.le_refl _
theorem lrTo_le (l : List UInt8) : ∀ k, lrTo l k ≤ k
  | 0 => Nat.le_refl _
  | k + 1 => by
    unfold lrTo
    split
    · have := lrTo_le l k; omega
    · exact runTo_le l (k + 1)
theorem lastTo_lt (l : List UInt8) : ∀ k : Nat, -1 ≤ lastTo l k ∧ lastTo l k < k
  | 0 => by unfold lastTo; omega
  | k + 1 => by
    unfold lastTo
    have := lastTo_lt l k
    split <;> omega
theorem lrTo_last (l : List UInt8) : ∀ k : Nat, 0 ≤ lastTo l k → (lrTo l k : Int) ≤ lastTo l k + 1
  | 0 => by unfold lastTo; omega
  | k + 1 => by
    unfold lastTo lrTo
    split
    · exact lrTo_last l k
    · have := runTo_le l (k + 1)
      omega

theorem modelF_neg (l : List UInt8) (h : lastTo l l.length < 0) : modelF l = true := by
  unfold modelF
  rw [if_pos h]
/-- the word that ends at place m -/
def wordAt (l : List UInt8) (r m : Nat) : List UInt8 := (l.drop r).take (m + 1 - r)
theorem modelF_pos (l : List UInt8) (m : Nat) (h : lastTo l l.length = m) : modelF l = (if ldTo l l.length then true else if wordB (at0 l m) then isKw orI (wordAt l (lrTo l l.length) m)
    else !(at0 l m == 34 && decide (0 < m) && wordB (at0 l (m - 1)))) := by
  unfold modelF wordAt
  rw [h, if_neg (by omega), Int.toNat_natCast, List.drop_take]
  by_cases hm : 0 < m
  · simp [hm]
  · simp [hm]

end Go.Proofs.Qxb6601006aDoor
