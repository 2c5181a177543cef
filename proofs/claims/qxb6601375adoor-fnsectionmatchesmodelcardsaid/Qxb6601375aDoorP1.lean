import Derived.Lib.Strings
import Derived.Lib.Bytealg
namespace Go.Proofs.Qxb6601375aDoor
open Go

/- ---- bytes ---- -/
def at0 (l : List UInt8) (j : Nat) : Int := ((l.getD j 0).toNat : Int)
theorem at0_of (s : ByteArray) (k : Nat) (h : k < s.size) : at0 s.data.toList k = (s[k].toNat : Int) := by
  have e : s.data.toList.getD k 0 = s[k] := by
    rw [List.getD_eq_getElem?_getD, List.getElem?_eq_getElem (by simpa using h)]
    rfl
  unfold at0
  rw [e]
theorem at0_get (l : List UInt8) (j : Nat) (h : j < l.length) : at0 l j = (l[j].toNat : Int) := by
  unfold at0
  rw [List.getD_eq_getElem?_getD, List.getElem?_eq_getElem h]
  rfl
theorem len_size (s : ByteArray) : s.data.toList.length = s.size := by simp

/- ---- lines ---- -/
def linesAcc (cur : List UInt8) : List UInt8 → List (List UInt8)
  | [] => if cur.isEmpty then [] else [cur]
  | b :: r => if b == 10 then (cur ++ [b]) :: linesAcc [] r else linesAcc (cur ++ [b]) r
def linesL (l : List UInt8) : List (List UInt8) := linesAcc [] l

theorem linesAcc_flatten : ∀ (r cur : List UInt8), (linesAcc cur r).flatten = cur ++ r
  | [], cur => by
    unfold linesAcc
    cases cur <;> simp
  | b :: r, cur => by
    unfold linesAcc
    split
    · rw [List.flatten_cons, linesAcc_flatten r []]; simp
    · rw [linesAcc_flatten r]; simp
theorem linesL_flatten (l : List UInt8) : (linesL l).flatten = l := linesAcc_flatten l []

/-- what the iterator does: cut at the first newline -/
theorem linesAcc_cut : ∀ (s cur : List UInt8), linesAcc cur s = if 0 ≤ Lib.indexByte s 10 then (cur ++ s.take ((Lib.indexByte s 10).toNat + 1)) :: linesL (s.drop ((Lib.indexByte s 10).toNat + 1)) else if (cur ++ s).isEmpty then [] else [cur ++ s]
  | [], cur => by simp [linesAcc, Lib.indexByte]
  | b :: r, cur => by
    by_cases hb : b = 10
    · subst hb
      have : Lib.indexByte (10 :: r) 10 = 0 := by simp [Lib.indexByte]
      rw [this]
      simp [linesAcc, linesL]
    · have hb' : (b == 10) = false := by simpa using hb
      have ih := linesAcc_cut r (cur ++ [b])
      have hge := Lib.indexByte_ge r 10
      have hidx : Lib.indexByte (b :: r) 10 = if Lib.indexByte r 10 == -1 then -1 else Lib.indexByte r 10 + 1 := by rw [Lib.indexByte, hb']; rfl
      unfold linesAcc
      rw [hb', if_neg (by simp), ih, hidx]
      by_cases hr : Lib.indexByte r 10 = -1
      · rw [hr]; simp
      · have e : (Lib.indexByte r 10 == -1) = false := by simpa using hr
        have h0 : 0 ≤ Lib.indexByte r 10 := by omega
        rw [e, if_pos h0]
        simp only [Bool.false_eq_true, if_false]
        rw [if_pos (by omega), show (Lib.indexByte r 10 + 1).toNat = (Lib.indexByte r 10).toNat + 1 by omega]
        simp
theorem linesL_nil : linesL [] = [] := rfl
theorem linesL_hit (s : List UInt8) (h : 0 ≤ Lib.indexByte s 10) : linesL s = s.take ((Lib.indexByte s 10).toNat + 1) :: linesL (s.drop ((Lib.indexByte s 10).toNat + 1)) := by
  unfold linesL
  rw [linesAcc_cut s [], if_pos h]
  rfl
theorem linesL_last (s : List UInt8) (h : Lib.indexByte s 10 < 0) (hn : s ≠ []) : linesL s = [s] := by
  unfold linesL
  rw [linesAcc_cut s [], if_neg (by omega), List.nil_append, if_neg (by simpa using hn)]

/- ---- where the lines lie ---- -/
def off (L : List (List UInt8)) (i : Nat) : Nat := ((L.take i).map List.length).sum
theorem off_zero (L : List (List UInt8)) : off L 0 = 0 := by simp [off]
theorem off_succ (L : List (List UInt8)) (i : Nat) (h : i < L.length) : off L (i + 1) = off L i + (L.getD i []).length := by
  unfold off
  rw [List.take_succ_eq_append_getElem h, List.map_append, List.sum_append, List.getD_eq_getElem?_getD, List.getElem?_eq_getElem h]
  simp
theorem off_all (L : List (List UInt8)) : off L L.length = L.flatten.length := by
  unfold off
  rw [List.take_length, List.length_flatten]
theorem off_le (L : List (List UInt8)) (i : Nat) : off L i ≤ L.flatten.length := by
  unfold off
  rw [List.length_flatten]
  have : (L.map List.length).sum = ((L.take i).map List.length).sum + ((L.drop i).map List.length).sum := by
    rw [← List.sum_append, ← List.map_append, List.take_append_drop]
  omega
theorem off_mono (L : List (List UInt8)) (i j : Nat) (h : i ≤ j) : off L i ≤ off L j := by
  unfold off
  have : L.take j = L.take i ++ (L.take j).drop i := by
    conv => lhs; rw [← List.take_append_drop i (L.take j)]
    rw [List.take_take, Nat.min_eq_left h]
  rw [this, List.map_append, List.sum_append]
  omega
theorem drop_off : ∀ (L : List (List UInt8)) (i : Nat), L.flatten.drop (off L i) = (L.drop i).flatten
  | [], i => by simp
  | x :: L, 0 => by simp [off]
  | x :: L, i + 1 => by
    have e : off (x :: L) (i + 1) = x.length + off L i := by simp [off]
    rw [e, List.flatten_cons, ← List.drop_drop, List.drop_left, drop_off L i, List.drop_succ_cons]

/- ---- the pieces of a section ---- -/
def bare (x : List UInt8) : List UInt8 := Lib.trimSuffix x [10]
theorem bare_spec (x : List UInt8) : (∃ y, x = y ++ [10] ∧ bare x = y) ∨ (bare x = x ∧ ∀ y, x ≠ y ++ [10]) := by
  unfold bare Lib.trimSuffix Lib.hasSuffix
  by_cases h : [10] <:+ x
  · obtain ⟨y, rfl⟩ := h
    refine .inl ⟨y, rfl, ?_⟩
    rw [if_pos (by simp [List.isSuffixOf_iff_suffix])]
    simp
  · refine .inr ⟨?_, fun y e => h ⟨y, e.symm⟩⟩
    rw [if_neg (by rw [List.isSuffixOf_iff_suffix]; exact h)]
theorem bare_prefix (x : List UInt8) : bare x <+: x := by
  rcases bare_spec x with ⟨y, rfl, h⟩ | ⟨h, _⟩
  · rw [h]; exact ⟨[10], rfl⟩
  · rw [h]; exact List.prefix_refl _
def line (L : List (List UInt8)) (i : Nat) : List UInt8 := bare (L.getD i [])
theorem line_at (L : List (List UInt8)) (i : Nat) (h : i < L.length) : (L.flatten.drop (off L i)).take (line L i).length = line L i := by
  have hd : L.getD i [] = L[i] := by rw [List.getD_eq_getElem?_getD, List.getElem?_eq_getElem h]; rfl
  rw [drop_off, List.drop_eq_getElem_cons h, List.flatten_cons, ← hd]
  obtain ⟨t, ht⟩ := bare_prefix (L.getD i [])
  show List.take (bare (L.getD i [])).length _ = bare (L.getD i [])
  generalize bare (L.getD i []) = y at *
  rw [← ht, List.append_assoc, List.take_left]

def fencedB (b : List UInt8) (o : Bool) : Bool := if o then !(b == [96, 96, 96]) else Lib.hasPrefix b [96, 96, 96]
def openAt (L : List (List UInt8)) : Nat → Bool
  | 0 => false
  | i + 1 => fencedB (line L i) (openAt L i)
def prose (L : List (List UInt8)) (i : Nat) : Bool := !openAt L i && !openAt L (i + 1)
/-- the level of a heading line: how many '#' lead, a space behind them; else 0 -/
def hashes (l : List UInt8) : Nat := (l.takeWhile (· == 35)).length
def lev (l : List UInt8) : Nat := if hashes l ≠ 0 ∧ hashes l < l.length ∧ at0 l (hashes l) = 32 then hashes l else 0
def hit (L : List (List UInt8)) (h : List UInt8) (i : Nat) : Bool := prose L i && line L i == h
def stopB (L : List (List UInt8)) (lv : Nat) (i : Nat) : Bool := prose L i && decide (0 < lev (line L i)) && decide (lev (line L i) ≤ lv)
/-- the heading stands at a, first -/
def firstHit (L : List (List UInt8)) (h : List UInt8) (a : Nat) : Prop := a < L.length ∧ hit L h a = true ∧ ∀ j, j < a → hit L h j = false
/-- what Section answers -/
def SecIs (L : List (List UInt8)) (h : List UInt8) (r : List UInt8) (b : Bool) : Prop :=
  (b = false ∧ r = [] ∧ ∀ i, i < L.length → hit L h i = false) ∨
  (b = true ∧ ∃ a, firstHit L h a ∧
    ((∃ j, a < j ∧ j < L.length ∧ stopB L (lev h) j = true ∧ (∀ k, a < k → k < j → stopB L (lev h) k = false) ∧ r = (L.flatten.drop (off L (a + 1))).take (off L j - off L (a + 1))) ∨
     ((∀ j, a < j → j < L.length → stopB L (lev h) j = false) ∧ r = L.flatten.drop (off L (a + 1)))))

theorem firstHit_unique {L : List (List UInt8)} {h : List UInt8} {a b : Nat} (ha : firstHit L h a) (hb : firstHit L h b) : a = b := by
  rcases Nat.lt_trichotomy a b with h1 | h1 | h1
  · have := hb.2.2 a h1; rw [ha.2.1] at this; cases this
  · exact h1
  · have := ha.2.2 b h1; rw [hb.2.1] at this; cases this
theorem SecIs_unique {L : List (List UInt8)} {h r r' : List UInt8} {b b' : Bool} (h1 : SecIs L h r b) (h2 : SecIs L h r' b') : r = r' ∧ b = b' := by
  rcases h1 with ⟨rfl, rfl, hn⟩ | ⟨rfl, a, ha, h1⟩
  · rcases h2 with ⟨rfl, rfl, _⟩ | ⟨_, a, ha, _⟩
    · exact ⟨rfl, rfl⟩
    · have := hn a ha.1; rw [ha.2.1] at this; cases this
  · rcases h2 with ⟨_, _, hn⟩ | ⟨rfl, a', ha', h2⟩
    · have := hn a ha.1; rw [ha.2.1] at this; cases this
    · obtain rfl := firstHit_unique ha ha'
      refine ⟨?_, rfl⟩
      rcases h1 with ⟨j, j1, j2, j3, j4, rfl⟩ | ⟨hn, rfl⟩
      · rcases h2 with ⟨j', k1, k2, k3, k4, rfl⟩ | ⟨hn, _⟩
        · rcases Nat.lt_trichotomy j j' with h | h | h
          · have := k4 j j1 h; rw [j3] at this; cases this
          · rw [h]
          · have := j4 j' k1 h; rw [k3] at this; cases this
        · have := hn j j1 j2; rw [j3] at this; cases this
      · rcases h2 with ⟨j', k1, k2, k3, k4, _⟩ | ⟨_, rfl⟩
        · have := hn j' k1 k2; rw [k3] at this; cases this
        · rfl
end Go.Proofs.Qxb6601375aDoor
