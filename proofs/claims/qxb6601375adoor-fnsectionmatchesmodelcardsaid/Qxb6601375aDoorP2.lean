import Derived.Test.Qxb6601375aDoorP1
namespace Go.Proofs.Qxb6601375aDoor
open Go

/-- k bytes have been scanned: the lines pre are done, cur is the one under way -/
def Scan (l : List UInt8) (k : Nat) (pre : List (List UInt8)) (cur : List UInt8) : Prop :=
  linesL l = pre ++ linesAcc cur (l.drop k) ∧ pre.flatten ++ cur = l.take k ∧ ∀ b ∈ cur, b ≠ 10

theorem scan_zero (l : List UInt8) : Scan l 0 [] [] := ⟨rfl, rfl, by simp⟩
theorem scan_nl {l : List UInt8} {k : Nat} {pre : List (List UInt8)} {cur : List UInt8} (h : Scan l k pre cur) (hk : k < l.length) (hb : l[k] = 10) : Scan l (k + 1) (pre ++ [cur ++ [10]]) [] := by
  obtain ⟨h1, h2, _⟩ := h
  refine ⟨?_, ?_, by simp⟩
  · rw [h1, List.drop_eq_getElem_cons hk, hb]
    simp [linesAcc]
  · rw [List.take_succ_eq_append_getElem hk, ← h2, hb]
    simp
theorem scan_no {l : List UInt8} {k : Nat} {pre : List (List UInt8)} {cur : List UInt8} (h : Scan l k pre cur) (hk : k < l.length) (hb : l[k] ≠ 10) : Scan l (k + 1) pre (cur ++ [l[k]]) := by
  obtain ⟨h1, h2, h3⟩ := h
  refine ⟨?_, ?_, ?_⟩
  · rw [h1, List.drop_eq_getElem_cons hk]
    have : (l[k] == 10) = false := by simpa using hb
    conv => lhs; rw [linesAcc, this]
    rfl
  · rw [List.take_succ_eq_append_getElem hk, ← h2]
    simp
  · intro b hb'
    rcases List.mem_append.1 hb' with hb' | hb'
    · exact h3 b hb'
    · simp at hb'; subst hb'; exact hb
theorem scan_len {l : List UInt8} {k : Nat} {pre : List (List UInt8)} {cur : List UInt8} (h : Scan l k pre cur) (hk : k ≤ l.length) : off pre pre.length + cur.length = k := by
  have := congrArg List.length h.2.1
  rw [List.length_append, List.length_take, ← off_all] at this
  omega
theorem scan_end {l : List UInt8} {pre : List (List UInt8)} {cur : List UInt8} (h : Scan l l.length pre cur) : linesL l = if cur = [] then pre else pre ++ [cur] := by
  rw [h.1, List.drop_length]
  unfold linesAcc
  cases cur <;> simp

theorem bare_nl (y : List UInt8) : bare (y ++ [10]) = y := by
  rcases bare_spec (y ++ [10]) with ⟨z, h1, h2⟩ | ⟨_, h2⟩
  · rw [h2]; exact (List.append_inj_left' h1 rfl).symm
  · exact absurd rfl (h2 y)
theorem bare_no {y : List UInt8} (h : ∀ b ∈ y, b ≠ 10) : bare y = y := by
  rcases bare_spec y with ⟨z, h1, h2⟩ | ⟨h2, _⟩
  · exact absurd rfl (h 10 (by rw [h1]; simp))
  · exact h2

/-- where the lines begin, where they end -/
def startsOf (L : List (List UInt8)) : List Int := (List.range L.length).map fun i => (off L i : Int)
def endsOf (L : List (List UInt8)) : List Int := (List.range L.length).map fun i => ((off L i + (line L i).length : Nat) : Int)
theorem off_app (L : List (List UInt8)) (x : List UInt8) (i : Nat) (h : i ≤ L.length) : off (L ++ [x]) i = off L i := by
  unfold off
  rw [List.take_append_of_le_length h]
theorem line_app (L : List (List UInt8)) (x : List UInt8) (i : Nat) (h : i < L.length) : line (L ++ [x]) i = line L i := by
  unfold line
  rw [List.getD_eq_getElem?_getD, List.getD_eq_getElem?_getD, List.getElem?_append_left h]
theorem line_last (L : List (List UInt8)) (x : List UInt8) : line (L ++ [x]) L.length = bare x := by
  unfold line
  rw [List.getD_eq_getElem?_getD]
  simp
theorem startsOf_app (L : List (List UInt8)) (x : List UInt8) : startsOf (L ++ [x]) = startsOf L ++ [(off L L.length : Int)] := by
  unfold startsOf
  rw [List.length_append, List.length_singleton, List.range_succ, List.map_append]
  congr 1
  · refine List.map_congr_left fun i hi => ?_
    rw [off_app L x i (by have := List.mem_range.1 hi; omega)]
  · simp [off_app]
theorem endsOf_app (L : List (List UInt8)) (x : List UInt8) : endsOf (L ++ [x]) = endsOf L ++ [((off L L.length + (bare x).length : Nat) : Int)] := by
  unfold endsOf
  rw [List.length_append, List.length_singleton, List.range_succ, List.map_append]
  congr 1
  · refine List.map_congr_left fun i hi => ?_
    have := List.mem_range.1 hi
    rw [off_app L x i (by omega), line_app L x i this]
  · simp [off_app, line_last]
theorem startsOf_get (L : List (List UInt8)) (i : Nat) (h : i < L.length) : (startsOf L)[i]? = some (off L i : Int) := by
  unfold startsOf
  rw [List.getElem?_map, List.getElem?_range h]
  rfl
theorem endsOf_get (L : List (List UInt8)) (i : Nat) (h : i < L.length) : (endsOf L)[i]? = some ((off L i + (line L i).length : Nat) : Int) := by
  unfold endsOf
  rw [List.getElem?_map, List.getElem?_range h]
  rfl
theorem count_le : ∀ (L : List (List UInt8)), (∀ x ∈ L, x ≠ []) → L.length ≤ L.flatten.length
  | [], _ => by simp
  | x :: L, h => by
    have ih := count_le L (fun y hy => h y (List.mem_cons_of_mem _ hy))
    have : x ≠ [] := h x (List.mem_cons_self)
    have : 0 < x.length := List.length_pos_iff.2 this
    simp only [List.length_cons, List.flatten_cons, List.length_append]
    omega
theorem linesAcc_ne : ∀ (r cur : List UInt8), ∀ x ∈ linesAcc cur r, x ≠ []
  | [], cur, x, hx => by
    unfold linesAcc at hx
    split at hx
    · cases hx
    · rename_i h
      simp at hx
      subst hx
      simpa using h
  | b :: r, cur, x, hx => by
    unfold linesAcc at hx
    split at hx
    · rcases List.mem_cons.1 hx with rfl | hx
      · simp
      · exact linesAcc_ne r [] x hx
    · exact linesAcc_ne r _ x hx
theorem lines_count (l : List UInt8) : (linesL l).length ≤ l.length := by
  have := count_le (linesL l) (linesAcc_ne l [])
  rwa [linesL_flatten] at this
theorem scan_count {l : List UInt8} {k : Nat} {pre : List (List UInt8)} {cur : List UInt8} (h : Scan l k pre cur) : pre.length ≤ l.length := by
  have := lines_count l
  rw [h.1, List.length_append] at this
  omega
end Go.Proofs.Qxb6601375aDoor
