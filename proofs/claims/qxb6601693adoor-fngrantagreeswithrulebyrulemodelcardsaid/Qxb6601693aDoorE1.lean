import Derived.Test.Qxb6601693aDoorD4
import Derived.Test.Qxb6601693aDoorC2
namespace Go.Proofs.Qxb6601693aDoor

theorem range_any (l : List RuleD) (p : RuleD → Bool) : ((List.range l.length).any fun k => p (ru l k)) = l.any p := by
  refine bool_iff ⟨fun h => ?_, fun h => ?_⟩
  · obtain ⟨k, hk, e⟩ := List.any_eq_true.1 h
    have hk' := List.mem_range.1 hk
    refine List.any_eq_true.2 ⟨ru l k, ?_, e⟩
    unfold ru
    rw [List.getD_eq_getElem?_getD, List.getElem?_eq_getElem hk']
    exact List.getElem_mem hk'
  · obtain ⟨x, hx, e⟩ := List.any_eq_true.1 h
    obtain ⟨k, hk, rfl⟩ := List.mem_iff_getElem.1 hx
    refine List.any_eq_true.2 ⟨k, List.mem_range.2 hk, ?_⟩
    unfold ru
    rw [List.getD_eq_getElem?_getD, List.getElem?_eq_getElem hk]
    exact e
def applF (acct : ByteArray) (rules : List RuleD) (e : ResD) (j : Nat) : Bool := applB (matchB acct) acct (ru rules j) e
/-- what the model allows -/
def okF (acct : ByteArray) (rules : List RuleD) (e : ResD) (a : ByteArray) : Bool := okAct (allowedL (matchB acct) acct rules e) a
theorem allowN_eq (acct : ByteArray) (rules : List RuleD) (e : ResD) (a : ByteArray) : allowN rules (applF acct rules e) a rules.length = okF acct rules e a := by
  unfold okF
  rw [← allowB_eq]
  exact range_any rules fun r => applB (matchB acct) acct r e && (hasB r.acts a || hasB r.acts starB)
theorem allowN_congr {rules : List RuleD} {f g : Nat → Bool} {a : ByteArray} {n : Nat} (h : ∀ k, k < n → f k = g k) : allowN rules f a n = allowN rules g a n := by
  unfold allowN
  refine bool_iff ⟨fun hh => ?_, fun hh => ?_⟩
  · obtain ⟨k, hk, e⟩ := List.any_eq_true.1 hh
    exact List.any_eq_true.2 ⟨k, hk, by rw [← h k (List.mem_range.1 hk)]; exact e⟩
  · obtain ⟨k, hk, e⟩ := List.any_eq_true.1 hh
    exact List.any_eq_true.2 ⟨k, hk, by rw [h k (List.mem_range.1 hk)]; exact e⟩
theorem map_toL_ofL (l : List Bs) : (l.map ofL).map toL = l := by
  rw [List.map_map]
  exact List.map_id' l
theorem insB_sortL (xs : List ByteArray) (x : ByteArray) : insB (sortL xs) x = sortL (xs ++ [x]) := by
  unfold insB
  rw [← sortL_snoc, map_ofL_toL]
theorem ins_len (l : List Bs) (x : Bs) : (ins l x).length ≤ l.length + 1 := by
  unfold ins
  split
  · omega
  · have := headLt_le x l
    rw [List.length_append, List.length_cons, List.length_take, List.length_drop]
    omega
theorem fold_len (xs : List Bs) : ∀ l : List Bs, (xs.foldl ins l).length ≤ l.length + xs.length := by
  induction xs with
  | nil => exact fun l => Nat.le_refl _
  | cons a xs ih =>
    intro l
    have h1 := ih (ins l a)
    have h2 := ins_len l a
    rw [List.foldl_cons, List.length_cons]
    omega
theorem sortL_len (xs : List ByteArray) : (sortL xs).length ≤ xs.length := by
  unfold sortL
  rw [List.length_map]
  have := fold_len (xs.map toL) []
  simpa using this
/-- what the model's exp holds in the midst of the m-th resource -/
def expT (acct : ByteArray) (rules : List RuleD) (asl : List ResD) (i m a : Nat) : List ByteArray := sortL ((actsOf asl i m ++ (rd asl m).acts.take a).filter (okF acct rules (rd asl i)))
theorem expT_len (acct : ByteArray) (rules : List RuleD) (asl : List ResD) (i m a : Nat) (h : ∀ m, m < asl.length → (rd asl m).acts.length ≤ 1048576) (hm : m ≤ asl.length) (hn : asl.length ≤ 1048576) (ha : a ≤ 1048576) : (expT acct rules asl i m a).length ≤ 1099512676352 := by
  unfold expT
  refine Nat.le_trans (sortL_len _) (Nat.le_trans (List.length_filter_le _ _) ?_)
  rw [List.length_append, List.length_take]
  have h1 := actsOf_len asl i h m hm
  have h2 : m * 1048576 ≤ 1048576 * 1048576 := Nat.mul_le_mul_right _ (by omega)
  omega
theorem expT_len' (acct : ByteArray) (rules : List RuleD) (asl : List ResD) (i m a : Nat) (h : ∀ m, m < asl.length → (rd asl m).acts.length ≤ 1048576) (hm : m < asl.length) (hn : asl.length ≤ 1048576) : (expT acct rules asl i m a).length ≤ 1099511627776 := by
  unfold expT
  refine Nat.le_trans (sortL_len _) (Nat.le_trans (List.length_filter_le _ _) ?_)
  rw [List.length_append, List.length_take]
  have h1 := actsOf_len asl i h m (by omega)
  have h3 := h m hm
  have h2 : (m + 1) * 1048576 ≤ 1048576 * 1048576 := Nat.mul_le_mul_right _ (by omega)
  rw [Nat.succ_mul] at h2
  omega
theorem expT_start (acct : ByteArray) (rules : List RuleD) (asl : List ResD) (i : Nat) : expT acct rules asl i i 0 = [] := by
  unfold expT
  rw [actsOf_none asl i i (Nat.le_refl _)]
  rfl
theorem expT_step (acct : ByteArray) (rules : List RuleD) (asl : List ResD) (i m a : Nat) (ha : a < (rd asl m).acts.length) : expT acct rules asl i m (a + 1) = if okF acct rules (rd asl i) ((rd asl m).acts.getD a ByteArray.empty) then insB (expT acct rules asl i m a) ((rd asl m).acts.getD a ByteArray.empty) else expT acct rules asl i m a := by
  unfold expT
  rw [take_snoc _ a ByteArray.empty ha, ← List.append_assoc, filter_snoc]
  split
  · rw [insB_sortL]
  · rw [List.append_nil]
theorem expT_miss (acct : ByteArray) (rules : List RuleD) (asl : List ResD) (i m : Nat) (h : sameK (rd asl m) (rd asl i) = false) : expT acct rules asl i (m + 1) 0 = expT acct rules asl i m 0 := by
  unfold expT
  rw [show actsOf asl i (m + 1) = actsOf asl i m ++ (if i ≤ m ∧ sameK (rd asl m) (rd asl i) = true then (rd asl m).acts else []) from rfl, if_neg (by rw [h]; simp), List.append_nil, List.take_zero, List.take_zero]
theorem expT_hit (acct : ByteArray) (rules : List RuleD) (asl : List ResD) (i m : Nat) (him : i ≤ m) (h : sameK (rd asl m) (rd asl i) = true) : expT acct rules asl i (m + 1) 0 = expT acct rules asl i m (rd asl m).acts.length := by
  unfold expT
  rw [show actsOf asl i (m + 1) = actsOf asl i m ++ (if i ≤ m ∧ sameK (rd asl m) (rd asl i) = true then (rd asl m).acts else []) from rfl, if_pos ⟨him, h⟩, List.take_zero, List.append_nil, List.take_length]
theorem expT_all (acct : ByteArray) (rules : List RuleD) (asl : List ResD) (i : Nat) : expT acct rules asl i asl.length 0 = sortL (grantA (matchB acct) acct rules (entry asl asl.length i)) := by
  unfold expT
  rw [List.take_zero, List.append_nil]
  rfl
end Go.Proofs.Qxb6601693aDoor
