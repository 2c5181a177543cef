import Derived.Test.Qxb6601693aDoorG4
import Derived.Test.Qxb6601693aDoorP2
namespace Go.Proofs.Qxb6601693aDoor

theorem bool_iff {a b : Bool} (h : a = true ↔ b = true) : a = b := by
  cases a <;> cases b <;> simp_all
def sameK (a b : ResD) : Bool := decide (a.ty = b.ty) && (decide (a.cl = b.cl) && decide (a.na = b.na))
theorem sameK_iff {a b : ResD} : sameK a b = true ↔ a.ty = b.ty ∧ a.cl = b.cl ∧ a.na = b.na := by unfold sameK; simp
theorem sameK_symm (a b : ResD) : sameK a b = sameK b a := by
  have : sameK a b = true ↔ sameK b a = true := by
    rw [sameK_iff, sameK_iff]
    constructor <;> rintro ⟨h1, h2, h3⟩ <;> exact ⟨h1.symm, h2.symm, h3.symm⟩
  exact bool_iff this
theorem sameK_trans {a b c : ResD} (h : sameK a b = true) (h' : sameK b c = true) : sameK a c = true := by
  rw [sameK_iff] at *
  exact ⟨h.1.trans h'.1, h.2.1.trans h'.2.1, h.2.2.trans h'.2.2⟩
theorem sameK_refl (a : ResD) : sameK a a = true := sameK_iff.2 ⟨rfl, rfl, rfl⟩
def addA (e : ResD) (xs : List ByteArray) : ResD := { e with acts := e.acts ++ xs }
/-- one round of mergeResources -/
def mergeStep (m : List ResD) (r : ResD) : List ResD := if m.any (sameK · r) then m.map (fun e => if sameK e r then addA e r.acts else e) else m ++ [r]
abbrev rd (asl : List ResD) (i : Nat) : ResD := asl.getD i ResD.none
/-- mergeResources of the first k -/
def mergeL (asl : List ResD) : Nat → List ResD
  | 0 => []
  | k + 1 => mergeStep (mergeL asl k) (rd asl k)
def seenR (asl : List ResD) (i : Nat) : Bool := (List.range i).any fun j => sameK (rd asl j) (rd asl i)
def actsOf (asl : List ResD) (i : Nat) : Nat → List ByteArray
  | 0 => []
  | k + 1 => actsOf asl i k ++ (if i ≤ k ∧ sameK (rd asl k) (rd asl i) = true then (rd asl k).acts else [])
def entry (asl : List ResD) (k i : Nat) : ResD := { rd asl i with acts := actsOf asl i k }
def firsts (asl : List ResD) : Nat → List Nat
  | 0 => []
  | k + 1 => if seenR asl k then firsts asl k else firsts asl k ++ [k]
theorem actsOf_none (asl : List ResD) (i : Nat) : ∀ k, k ≤ i → actsOf asl i k = []
  | 0, _ => rfl
  | k + 1, h => by
    unfold actsOf
    rw [actsOf_none asl i k (by omega), if_neg (by omega)]
    rfl
theorem firsts_lt (asl : List ResD) : ∀ k i, i ∈ firsts asl k → i < k
  | 0, i, h => (List.not_mem_nil h).elim
  | k + 1, i, h => by
    unfold firsts at h
    split at h
    · have := firsts_lt asl k i h
      omega
    · rcases List.mem_append.1 h with h | h
      · have := firsts_lt asl k i h
        omega
      · have := List.mem_singleton.1 h
        omega
theorem seenR_iff (asl : List ResD) (i : Nat) : seenR asl i = true ↔ ∃ j, j < i ∧ sameK (rd asl j) (rd asl i) = true := by
  unfold seenR
  rw [List.any_eq_true]
  constructor
  · rintro ⟨j, h1, h2⟩; exact ⟨j, List.mem_range.1 h1, h2⟩
  · rintro ⟨j, h1, h2⟩; exact ⟨j, List.mem_range.2 h1, h2⟩
theorem firsts_all (asl : List ResD) : ∀ k j, j < k → ∃ i, i ∈ firsts asl k ∧ sameK (rd asl i) (rd asl j) = true
  | 0, j, h => absurd h (Nat.not_lt_zero _)
  | k + 1, j, h => by
    unfold firsts
    split
    · rename_i hs
      by_cases e : j = k
      · subst e
        obtain ⟨j', h1, h2⟩ := (seenR_iff asl j).1 hs
        obtain ⟨i, hi, h3⟩ := firsts_all asl j j' h1
        exact ⟨i, hi, sameK_trans h3 h2⟩
      · exact firsts_all asl k j (by omega)
    · by_cases e : j = k
      · subst e
        exact ⟨j, by simp, sameK_refl _⟩
      · obtain ⟨i, hi, h3⟩ := firsts_all asl k j (by omega)
        exact ⟨i, by simp [hi], h3⟩
theorem merge_any (asl : List ResD) (k : Nat) : ((firsts asl k).map (entry asl k)).any (sameK · (rd asl k)) = seenR asl k := by
  have : ((firsts asl k).map (entry asl k)).any (sameK · (rd asl k)) = true ↔ seenR asl k = true := by
    rw [seenR_iff, List.any_eq_true]
    constructor
    · rintro ⟨e, h1, h2⟩
      obtain ⟨i, hi, rfl⟩ := List.mem_map.1 h1
      exact ⟨i, firsts_lt asl k i hi, h2⟩
    · rintro ⟨j, h1, h2⟩
      obtain ⟨i, hi, h3⟩ := firsts_all asl k j h1
      exact ⟨entry asl k i, List.mem_map.2 ⟨i, hi, rfl⟩, sameK_trans (a := rd asl i) h3 h2⟩
  exact bool_iff this
theorem merge_eq (asl : List ResD) : ∀ k, mergeL asl k = (firsts asl k).map (entry asl k)
  | 0 => rfl
  | k + 1 => by
    unfold mergeL mergeStep firsts
    rw [merge_eq asl k, merge_any]
    cases hs : seenR asl k
    · rw [if_neg (by simp), if_neg (by simp), List.map_append]
      have hno : ∀ i, i < k → sameK (rd asl k) (rd asl i) = false := fun i hi => by
        cases h : sameK (rd asl k) (rd asl i)
        · rfl
        · rw [sameK_symm] at h
          have := (seenR_iff asl k).2 ⟨i, hi, h⟩
          rw [hs] at this
          cases this
      congr 1
      · refine List.map_congr_left fun i hi => ?_
        have hi' := firsts_lt asl k i hi
        unfold entry
        rw [show actsOf asl i (k + 1) = actsOf asl i k ++ (if i ≤ k ∧ sameK (rd asl k) (rd asl i) = true then (rd asl k).acts else []) from rfl, if_neg (by rw [hno i hi']; simp), List.append_nil]
      · show [rd asl k] = [entry asl (k + 1) k]
        unfold entry
        rw [show actsOf asl k (k + 1) = actsOf asl k k ++ (if k ≤ k ∧ sameK (rd asl k) (rd asl k) = true then (rd asl k).acts else []) from rfl, if_pos ⟨Nat.le_refl _, sameK_refl _⟩, actsOf_none asl k k (Nat.le_refl _)]
        rfl
    · rw [if_pos rfl, if_pos rfl, List.map_map]
      refine List.map_congr_left fun i hi => ?_
      have hi' := firsts_lt asl k i hi
      show (if sameK (entry asl k i) (rd asl k) then addA (entry asl k i) (rd asl k).acts else entry asl k i) = entry asl (k + 1) i
      have e : sameK (entry asl k i) (rd asl k) = sameK (rd asl k) (rd asl i) := (sameK_symm (rd asl i) (rd asl k))
      rw [e]
      unfold entry
      rw [show actsOf asl i (k + 1) = actsOf asl i k ++ (if i ≤ k ∧ sameK (rd asl k) (rd asl i) = true then (rd asl k).acts else []) from rfl]
      cases h : sameK (rd asl k) (rd asl i)
      · rw [if_neg (by simp), if_neg (by simp), List.append_nil]
      · rw [if_pos rfl, if_pos ⟨by omega, rfl⟩]
        rfl

/- ---- what is granted ---- -/
def starB : ByteArray := ⟨#[42]⟩
def hasB (l : List ByteArray) (x : ByteArray) : Bool := l.any fun y => decide (y = x)
theorem hasB_iff (l : List ByteArray) (x : ByteArray) : hasB l x = true ↔ x ∈ l := by
  unfold hasB
  rw [List.any_eq_true]
  constructor
  · rintro ⟨y, h1, h2⟩
    rw [← of_decide_eq_true h2]
    exact h1
  · exact fun h => ⟨x, h, decide_eq_true rfl⟩
def coversB (ra acct : ByteArray) : Bool := if ra.toList.isEmpty then true else if ra.toList == [42] then !acct.toList.isEmpty else ra.toList == acct.toList
/-- the rules' account and type and name fit: M is what Match answers -/
def applB (M : RuleD → ByteArray → Bool) (acct : ByteArray) (r : RuleD) (e : ResD) : Bool := coversB r.ac acct && (r.ty.toList == e.ty.toList && M r e.na)
def allowedL (M : RuleD → ByteArray → Bool) (acct : ByteArray) (rules : List RuleD) (e : ResD) : List ByteArray := (rules.filter fun r => applB M acct r e).flatMap (·.acts)
def okAct (al : List ByteArray) (a : ByteArray) : Bool := hasB al a || hasB al starB
def toL (x : ByteArray) : Bs := x.data.toList
def ofL (x : Bs) : ByteArray := ⟨x.toArray⟩
theorem ofL_toL (x : ByteArray) : ofL (toL x) = x := rfl
theorem toL_ofL (x : Bs) : toL (ofL x) = x := rfl
def sortL (xs : List ByteArray) : List ByteArray := ((xs.map toL).foldl ins []).map ofL
def grantA (M : RuleD → ByteArray → Bool) (acct : ByteArray) (rules : List RuleD) (e : ResD) : List ByteArray := e.acts.filter (okAct (allowedL M acct rules e))
def grant1 (M : RuleD → ByteArray → Bool) (acct : ByteArray) (rules : List RuleD) (e : ResD) : Option ResD :=
  if grantA M acct rules e = [] then none else some { e with acts := sortL (grantA M acct rules e) }
def grantL (M : RuleD → ByteArray → Bool) (acct : ByteArray) (rules : List RuleD) (asl : List ResD) : List ResD := (mergeL asl asl.length).filterMap (grant1 M acct rules)
theorem grant_firsts (M : RuleD → ByteArray → Bool) (acct : ByteArray) (rules : List RuleD) (asl : List ResD) : grantL M acct rules asl = (firsts asl asl.length).filterMap fun i => grant1 M acct rules (entry asl asl.length i) := by
  unfold grantL
  rw [merge_eq, List.filterMap_map]
  rfl
/-- what the model has met of the grants at i -/
def metL (M : RuleD → ByteArray → Bool) (acct : ByteArray) (rules : List RuleD) (asl : List ResD) (i : Nat) : List ResD := (firsts asl i).filterMap fun i => grant1 M acct rules (entry asl asl.length i)
theorem met_prefix (M : RuleD → ByteArray → Bool) (acct : ByteArray) (rules : List RuleD) (asl : List ResD) (i : Nat) : ∀ n, i ≤ n → ∃ t, metL M acct rules asl n = metL M acct rules asl i ++ t
  | 0, h => ⟨[], by rw [show i = 0 by omega, List.append_nil]⟩
  | n + 1, h => by
    by_cases e : i = n + 1
    · exact ⟨[], by rw [e, List.append_nil]⟩
    · obtain ⟨t, ht⟩ := met_prefix M acct rules asl i n (by omega)
      unfold metL at ht ⊢
      rw [show firsts asl (n + 1) = if seenR asl n then firsts asl n else firsts asl n ++ [n] from rfl]
      split
      · exact ⟨t, ht⟩
      · rw [List.filterMap_append, ht, List.append_assoc]
        exact ⟨_, rfl⟩
theorem met_seen (M : RuleD → ByteArray → Bool) (acct : ByteArray) (rules : List RuleD) (asl : List ResD) (i : Nat) (h : seenR asl i = true) : metL M acct rules asl (i + 1) = metL M acct rules asl i := by
  unfold metL
  rw [show firsts asl (i + 1) = if seenR asl i then firsts asl i else firsts asl i ++ [i] from rfl, if_pos h]
theorem met_none (M : RuleD → ByteArray → Bool) (acct : ByteArray) (rules : List RuleD) (asl : List ResD) (i : Nat) (h : seenR asl i = false) (hg : grantA M acct rules (entry asl asl.length i) = []) : metL M acct rules asl (i + 1) = metL M acct rules asl i := by
  unfold metL
  rw [show firsts asl (i + 1) = if seenR asl i then firsts asl i else firsts asl i ++ [i] from rfl, if_neg (by rw [h]; simp), List.filterMap_append]
  have : grant1 M acct rules (entry asl asl.length i) = none := by unfold grant1; rw [if_pos hg]
  simp [this]
theorem met_some (M : RuleD → ByteArray → Bool) (acct : ByteArray) (rules : List RuleD) (asl : List ResD) (i : Nat) (h : seenR asl i = false) (hg : grantA M acct rules (entry asl asl.length i) ≠ []) : metL M acct rules asl (i + 1) = metL M acct rules asl i ++ [{ entry asl asl.length i with acts := sortL (grantA M acct rules (entry asl asl.length i)) }] := by
  unfold metL
  rw [show firsts asl (i + 1) = if seenR asl i then firsts asl i else firsts asl i ++ [i] from rfl, if_neg (by rw [h]; simp), List.filterMap_append]
  have : grant1 M acct rules (entry asl asl.length i) = some { entry asl asl.length i with acts := sortL (grantA M acct rules (entry asl asl.length i)) } := by unfold grant1; rw [if_neg hg]
  simp [this]
theorem met_all (M : RuleD → ByteArray → Bool) (acct : ByteArray) (rules : List RuleD) (asl : List ResD) : metL M acct rules asl asl.length = grantL M acct rules asl := (grant_firsts M acct rules asl).symm
/-- the grant at the model's place -/
theorem met_at (M : RuleD → ByteArray → Bool) (acct : ByteArray) (rules : List RuleD) (asl : List ResD) (i : Nat) (hi : i < asl.length) (h : seenR asl i = false) (hg : grantA M acct rules (entry asl asl.length i) ≠ []) :
    (metL M acct rules asl i).length < (grantL M acct rules asl).length ∧ (grantL M acct rules asl).getD (metL M acct rules asl i).length ResD.none = { entry asl asl.length i with acts := sortL (grantA M acct rules (entry asl asl.length i)) } := by
  obtain ⟨t, ht⟩ := met_prefix M acct rules asl (i + 1) asl.length (by omega)
  rw [met_all, met_some M acct rules asl i h hg, List.append_assoc] at ht
  rw [ht]
  refine ⟨by simp, ?_⟩
  rw [List.getD_eq_getElem?_getD, List.getElem?_append_right (Nat.le_refl _), Nat.sub_self]
  rfl
/-- zzAllowed -/
def allowB (M : RuleD → ByteArray → Bool) (acct : ByteArray) (rules : List RuleD) (e : ResD) (a : ByteArray) : Bool := rules.any fun r => applB M acct r e && (hasB r.acts a || hasB r.acts starB)
theorem allowB_eq (M : RuleD → ByteArray → Bool) (acct : ByteArray) (rules : List RuleD) (e : ResD) (a : ByteArray) : allowB M acct rules e a = okAct (allowedL M acct rules e) a := by
  have : allowB M acct rules e a = true ↔ okAct (allowedL M acct rules e) a = true := by
    unfold allowB okAct allowedL
    simp only [List.any_eq_true, Bool.and_eq_true, Bool.or_eq_true, hasB_iff, List.mem_flatMap, List.mem_filter]
    constructor
    · rintro ⟨r, h1, h2, h3 | h3⟩
      · exact .inl ⟨r, ⟨h1, h2⟩, h3⟩
      · exact .inr ⟨r, ⟨h1, h2⟩, h3⟩
    · rintro (⟨r, ⟨h1, h2⟩, h3⟩ | ⟨r, ⟨h1, h2⟩, h3⟩)
      · exact ⟨r, h1, h2, .inl h3⟩
      · exact ⟨r, h1, h2, .inr h3⟩
  exact bool_iff this
theorem applB_entry (M : RuleD → ByteArray → Bool) (acct : ByteArray) (r : RuleD) (asl : List ResD) (n i : Nat) : applB M acct r (entry asl n i) = applB M acct r (rd asl i) := rfl
theorem allowB_entry (M : RuleD → ByteArray → Bool) (acct : ByteArray) (rules : List RuleD) (asl : List ResD) (n i : Nat) (a : ByteArray) : allowB M acct rules (entry asl n i) a = allowB M acct rules (rd asl i) a := rfl
theorem sortL_nil (xs : List ByteArray) : sortL xs = [] ↔ xs = [] := by
  constructor
  · intro h
    have h' : (xs.map toL).foldl ins [] = [] := by
      unfold sortL at h
      exact List.map_eq_nil_iff.1 h
    cases xs with
    | nil => rfl
    | cons x xs =>
      have := ((fold_ins ((x :: xs).map toL) [] List.Pairwise.nil).2 (toL x)).2 (.inl (by simp))
      rw [h'] at this
      exact (List.not_mem_nil this).elim
  · rintro rfl
    rfl
theorem filter_snoc (p : ByteArray → Bool) (l : List ByteArray) (x : ByteArray) : (l ++ [x]).filter p = l.filter p ++ (if p x then [x] else []) := by
  rw [List.filter_append]
  congr 1
  cases h : p x <;> simp [h]
theorem sortL_snoc (xs : List ByteArray) (x : ByteArray) : (sortL (xs ++ [x])).map toL = ins ((sortL xs).map toL) (toL x) := by
  have e : ∀ l : List Bs, (l.map ofL).map toL = l := fun l => by
    rw [List.map_map]
    exact List.map_id' l
  unfold sortL
  rw [e, e, List.map_append, List.foldl_append]
  rfl
end Go.Proofs.Qxb6601693aDoor
