import Derived.Lib.SlTrimSet
import Derived.Lib.IndexBytes
import Derived.Lib.Bytes
namespace Go.Proofs.Qxb6601856aDoor
open Go

theorem len_size (s : ByteArray) : s.data.toList.length = s.size := by simp
def at0 (l : List UInt8) (j : Nat) : Int := ((l.getD j 0).toNat : Int)
theorem at0_of (s : ByteArray) (k : Nat) (h : k < s.size) : at0 s.data.toList k = (s[k].toNat : Int) := by
  have e : s.data.toList.getD k 0 = s[k] := by
    rw [List.getD_eq_getElem?_getD, List.getElem?_eq_getElem (by simpa using h)]
    rfl
  unfold at0
  rw [e]
theorem at0_nonneg (l : List UInt8) (j : Nat) : 0 ≤ at0 l j := by unfold at0; omega
theorem at0_lt (l : List UInt8) (j : Nat) : at0 l j < 256 := by unfold at0; have := (l.getD j 0).toNat_lt; omega
theorem at0_drop (l : List UInt8) (a j : Nat) : at0 (l.drop a) j = at0 l (a + j) := by
  unfold at0
  rw [List.getD_eq_getElem?_getD, List.getD_eq_getElem?_getD, List.getElem?_drop]
theorem at0_take (l : List UInt8) (a j : Nat) (h : j < a) : at0 (l.take a) j = at0 l j := by
  unfold at0
  rw [List.getD_eq_getElem?_getD, List.getD_eq_getElem?_getD, List.getElem?_take, if_pos h]

/- ---- folding ---- -/
def lowI (c : Int) : Int := if 65 ≤ c ∧ c ≤ 90 then c + 32 else c
def foldB (b t : List UInt8) : Bool := decide (b.length = t.length ∧ ∀ j, j < b.length → lowI (at0 b j) = lowI (at0 t j))
/-- the piece of a list, trimmed and folded -/
def P (t : List UInt8) (piece : List UInt8) : Bool := foldB (Lib.trimS piece [32, 9]) t

/- ---- the tokens of a list ---- -/
def tokL (t : List UInt8) (l : List UInt8) : Bool :=
  if l = [] then false
  else if Lib.index l [44] < 0 then P t l
  else P t (l.take (Lib.index l [44]).toNat) || tokL t (l.drop ((Lib.index l [44]).toNat + 1))
termination_by l.length
decreasing_by
  rename_i h _
  have : 0 < l.length := List.length_pos_iff.2 h
  rw [List.length_drop]
  omega
theorem tokL_nil (t : List UInt8) : tokL t [] = false := by rw [tokL.eq_def, if_pos rfl]
theorem tokL_last {t l : List UInt8} (h : l ≠ []) (hi : Lib.index l [44] < 0) : tokL t l = P t l := by rw [tokL.eq_def, if_neg h, if_pos hi]
theorem tokL_hit {t l : List UInt8} {i : Nat} (h : l ≠ []) (hi : Lib.index l [44] = i) : tokL t l = (P t (l.take i) || tokL t (l.drop (i + 1))) := by
  rw [tokL.eq_def, if_neg h, hi, if_neg (by omega), Int.toNat_natCast]

/- ---- where the comma stands ---- -/
theorem occ_comma (l : List UInt8) (i : Nat) (h : i < l.length) : Lib.occAt l [44] i = true ↔ at0 l i = 44 := by
  unfold Lib.occAt at0
  rw [List.drop_eq_getElem_cons h, List.getD_eq_getElem?_getD, List.getElem?_eq_getElem h]
  simp only [List.isPrefixOf, Bool.and_true, beq_iff_eq, Option.getD_some]
  constructor
  · intro e; rw [← e]; rfl
  · intro e
    exact UInt8.toNat_inj.1 (by show 44 = _; omega)
theorem index_comma {l : List UInt8} {i : Nat} (hi : i < l.length) (h : at0 l i = 44) (hno : ∀ j, j < i → at0 l j ≠ 44) : Lib.index l [44] = i := by
  refine Lib.index_first (by omega) ((occ_comma l i hi).2 h) (fun j hj => ?_)
  rw [Bool.eq_false_iff]
  exact fun e => hno j hj ((occ_comma l j (by omega)).1 e)
theorem index_no {l : List UInt8} (hno : ∀ j, j < l.length → at0 l j ≠ 44) : Lib.index l [44] = -1 := by
  refine Lib.index_none (fun j hj => ?_)
  by_cases hl : j < l.length
  · rw [Bool.eq_false_iff]
    exact fun e => hno j hl ((occ_comma l j hl).1 e)
  · unfold Lib.occAt
    rw [List.drop_eq_nil_of_le (by omega)]
    rfl

/- ---- trimming ---- -/
def wsI (c : Int) : Bool := c == 32 || c == 9
theorem ws_cut (b : UInt8) : ([32, 9] : List UInt8).contains b = wsI (b.toNat : Int) := by
  unfold wsI
  rw [Bool.eq_iff_iff]
  simp only [List.contains_cons, List.contains_nil, Bool.or_false, Bool.or_eq_true, beq_iff_eq]
  constructor
  · rintro (h | h)
    · left; rw [h]; rfl
    · right; rw [h]; rfl
  · rintro (h | h)
    · left; exact UInt8.toNat_inj.1 (by show _ = 32; omega)
    · right; exact UInt8.toNat_inj.1 (by show _ = 9; omega)
theorem at0_get {l : List UInt8} {j : Nat} {b : UInt8} (h : l[j]? = some b) : at0 l j = (b.toNat : Int) := by
  unfold at0
  rw [List.getD_eq_getElem?_getD, h]
  rfl
theorem trim_eq {l : List UInt8} {lo hi : Nat} (h1 : lo ≤ hi) (h2 : hi ≤ l.length) (hl : ∀ j, j < lo → wsI (at0 l j) = true) (hr : ∀ j, hi ≤ j → j < l.length → wsI (at0 l j) = true) (he : lo = hi ∨ (wsI (at0 l lo) = false ∧ wsI (at0 l (hi - 1)) = false)) :
    Lib.trimS l [32, 9] = (l.take hi).drop lo := by
  unfold Lib.trimS
  rcases he with rfl | ⟨e1, e2⟩
  · have hall : ∀ j, j < l.length → wsI (at0 l j) = true := fun j hj => by
      by_cases h : j < lo
      · exact hl j h
      · exact hr j (by omega) hj
    rw [Lib.trimRightS_take l [32, 9] 0 (Nat.zero_le _) (fun j b _ hb => by rw [ws_cut, ← at0_get hb]; exact hall j (List.getElem?_eq_some_iff.1 hb).1) (fun b h => absurd h (Nat.lt_irrefl _))]
    rw [List.take_zero, List.drop_eq_nil_of_le (by rw [List.length_take]; omega)]
    rfl
  · by_cases hlh : lo = hi
    · subst hlh
      by_cases h0 : 0 < lo
      · rw [hl (lo - 1) (by omega)] at e2; cases e2
      · by_cases hz : lo < l.length
        · rw [hr lo (Nat.le_refl _) hz] at e1; cases e1
        · have hn : l = [] := List.length_eq_zero_iff.1 (by omega)
          subst hn
          simp [Lib.trimRightS, Lib.trimLeftS]
    · rw [Lib.trimRightS_take l [32, 9] hi h2 (fun j b hj hb => by rw [ws_cut, ← at0_get hb]; exact hr j hj (List.getElem?_eq_some_iff.1 hb).1) (fun b _ hb => by rw [ws_cut, ← at0_get hb]; exact e2)]
      refine Lib.trimLeftS_drop _ _ lo (by rw [List.length_take]; omega) (fun j b hj hb => ?_) (fun b hb => ?_)
      · rw [List.getElem?_take, if_pos (by omega)] at hb
        rw [ws_cut, ← at0_get hb]
        exact hl j hj
      · rw [List.getElem?_take, if_pos (by omega)] at hb
        rw [ws_cut, ← at0_get hb]
        exact e1
end Go.Proofs.Qxb6601856aDoor
