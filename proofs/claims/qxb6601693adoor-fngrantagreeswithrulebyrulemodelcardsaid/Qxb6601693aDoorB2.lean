import Derived.Test.Qxb6601693aDoorB1
import Derived.Deep.RegionLaw
namespace Go.Proofs.Qxb6601693aDoor
open Go.RowKit

theorem run_append_strs (w : World) (ty base : Nat) (v x : Value) (xs ys : List ByteArray) (hown : OwnStr base w v xs) (hsrc : StrAt w x ys) (h63 : xs.length + ys.length ≤ 4398046511104) (hbase : base ≤ w.heap.size) :
    ∃ o n c w', (Builtin.append_ #[22, 22] ty #[v, x]).run Tryd.prog w = .ok (.slice o n c) w' ∧ n = xs.length + ys.length ∧ OwnStr base w' (.slice o n c) (xs ++ ys) ∧ w.grownBy w' v.ownBlock ∧ ((Value.slice o n c).ownBlock = v.ownBlock ∨ (Value.slice o n c).ownBlock = some w.heap.size) := by
  obtain ⟨i0, hi, hz0, hz1, hz2⟩ := info_parts Tryd.info9
  have key : ∀ v' w', w'.ownsRow base 9 1 v' (xs.length + ys.length) (xs.map Value.string ++ ys.map Value.string) → OwnStr base w' v' (xs ++ ys) := fun v' w' h => by
    unfold OwnStr
    rw [List.length_append, List.map_append]
    exact h
  have hform : ∀ v' w', OwnStr base w' v' (xs ++ ys) → ∃ o n c, v' = .slice o n c ∧ n = xs.length + ys.length := fun v' w' h => by
    obtain ⟨o, c, e⟩ := h.form
    exact ⟨o, _, c, e, by simp⟩
  obtain ⟨o, c, rfl, h1, h2⟩ := hsrc
  rcases o with _ | a
  · have hs : ys = [] := by
      by_cases h0 : 0 < ys.length
      · obtain ⟨b, f, e, _⟩ := h2 h0
        cases e
      · exact List.length_eq_zero_iff.1 (by omega)
    subst hs
    have hrun : (Builtin.append_ #[22, 22] ty #[v, .slice none 0 c]).run Tryd.prog w = .ok v w := by
      rcases hown.2 with ⟨rfl, h0⟩ | ⟨g, cap, cur, rfl, hb, hg, h1', h2', h3', h4'⟩
      · simp [Builtin.append_, run_underlying Tryd.underlying22, sizeOf, typeInfo, hi, Builtin.lenOf, Builtin.firstCells]
      · simp [Builtin.append_, run_underlying Tryd.underlying22, sizeOf, typeInfo, hi, Builtin.lenOf, Builtin.firstCells, h1', storeCells]
    have ho : OwnStr base w v (xs ++ []) := by rw [List.append_nil]; exact hown
    obtain ⟨o, n, c', rfl, hn⟩ := hform v w ho
    exact ⟨o, n, c', w, hrun, hn, ho, ⟨rfl, rfl, rfl, Nat.le_refl _, fun _ _ _ => rfl⟩, .inl rfl⟩
  · have hnews : ∀ j u, (ys.map Value.string)[j]? = some u → w.cell? (a.add j) = some u := fun j u hj => by
      have hjl : j < ys.length := by
        have := (List.getElem?_eq_some_iff.1 hj).1
        simpa using this
      obtain ⟨b, f, e, hc⟩ := h2 (by omega)
      cases e
      rw [strs_getD ys hjl] at hj
      cases hj
      rw [Addr.add_lit]
      exact hc j hjl
    obtain ⟨v', w', hr, h3, h4, _, h5⟩ := run_append_own_at (P := Tryd.prog) w base 22 ty 9 i0 _ 1 16 Tryd.underlying22 hi hz0 hz1 hz2 rfl (by decide) v xs.length (xs.map Value.string) hown a ys.length c (ys.map Value.string) (by simp) hnews (fun u hu => by
      obtain ⟨s, _, rfl⟩ := List.mem_map.1 hu
      rfl) (by unfold maxLen; omega) (by omega) hbase
    have ho := key v' w' h3
    obtain ⟨o, n, c', rfl, hn⟩ := hform v' w' ho
    exact ⟨o, n, c', w', hr, hn, ho, h4, h5⟩

theorem wp_append_strs {o : Oper} {a : Act} {w : World} {K : Act → World → Prop} {Q : Exit → Act → World → Prop} (s x : Operand) (ho : o.op = .call { callee := .builtin .append, args := #[s, x], argTypes := #[22, 22] })
    (base : Nat) (v vx : Value) (xs ys : List ByteArray) (hs : a.eval s = v) (hx : a.eval x = vx) (hown : OwnStr base w v xs) (hsrc : StrAt w vx ys) (h63 : xs.length + ys.length ≤ 4398046511104) (hbase : base ≤ w.heap.size)
    (h : ∀ o' n c w', n = xs.length + ys.length → OwnStr base w' (.slice o' n c) (xs ++ ys) → w.grownBy w' v.ownBlock → ((Value.slice o' n c).ownBlock = v.ownBlock ∨ (Value.slice o' n c).ownBlock = some w.heap.size) → K (a.put o.dst (.slice o' n c)) w') : o.wp Tryd.prog a w K Q := by
  obtain ⟨o', n, c, w', hr, h1, h2, h3, h4⟩ := run_append_strs w o.type base v vx xs ys hown hsrc h63 hbase
  unfold Oper.wp execOp
  simp only [ho, resolve, invoke, builtin, Sem.run_bind, Sem.run_pure, Result.andThen_ok, List.map_toArray, List.map_cons, List.map_nil, hs, hx, hr]
  exact h o' n c w' h1 h2 h3 h4
theorem wpList_append_strs {ops : Array Oper} {rest : List Oper} {o : Oper} {a : Act} {w : World} {Q : Exit → Act → World → Prop} (hgd : o.guard = none) (s x : Operand) (ho : o.op = .call { callee := .builtin .append, args := #[s, x], argTypes := #[22, 22] })
    (base : Nat) (v vx : Value) (xs ys : List ByteArray) (hs : a.eval s = v) (hx : a.eval x = vx) (hown : OwnStr base w v xs) (hsrc : StrAt w vx ys) (h63 : xs.length + ys.length ≤ 4398046511104) (hbase : base ≤ w.heap.size)
    (h : ∀ o' n c w', n = xs.length + ys.length → OwnStr base w' (.slice o' n c) (xs ++ ys) → w.grownBy w' v.ownBlock → ((Value.slice o' n c).ownBlock = v.ownBlock ∨ (Value.slice o' n c).ownBlock = some w.heap.size) → wpList Tryd.prog ops Q rest (a.put o.dst (.slice o' n c)) w') : wpList Tryd.prog ops Q (o :: rest) a w :=
  wpList_plain hgd fun _ hK => wp_append_strs s x ho base v vx xs ys hs hx hown hsrc h63 hbase fun o' n c w' h1 h2 h3 h4 => hK _ _ (h o' n c w' h1 h2 h3 h4)
theorem step_append_strs {ops : Array Oper} {o : Oper} {a : Act} {w : World} {K : Act → World → Prop} {Q : Exit → Act → World → Prop} {E : Prop} (hgd : o.guard = none) (s x : Operand) (ho : o.op = .call { callee := .builtin .append, args := #[s, x], argTypes := #[22, 22] })
    (base : Nat) (v vx : Value) (xs ys : List ByteArray) (hs : a.eval s = v) (hx : a.eval x = vx) (hown : OwnStr base w v xs) (hsrc : StrAt w vx ys) (h63 : xs.length + ys.length ≤ 4398046511104) (hbase : base ≤ w.heap.size)
    (h : ∀ o' n c w', n = xs.length + ys.length → OwnStr base w' (.slice o' n c) (xs ++ ys) → w.grownBy w' v.ownBlock → ((Value.slice o' n c).ownBlock = v.ownBlock ∨ (Value.slice o' n c).ownBlock = some w.heap.size) → K (a.put o.dst (.slice o' n c)) w') :
    if Region.wanted o (yielded ops a.tmps) = true then Oper.wp Tryd.prog o a w K Q else E := by
  have hw : Region.wanted o (yielded ops a.tmps) = true := by simp [Region.wanted, hgd]
  rw [if_pos hw]
  exact wp_append_strs s x ho base v vx xs ys hs hx hown hsrc h63 hbase h
end Go.Proofs.Qxb6601693aDoor
