import Derived.Test.Qxb6601693aDoorC3
import Derived.Test.Qxb6601693aDoorP4
import Derived.Test.Qxb6601693aDoorK1
namespace Go.Proofs.Qxb6601693aDoor
open Go.RowKit Go.Maps

theorem below_grown {w w' : World} (h : Below w.heap.size w w') (r : Option Nat) : w.grownBy w' r := ⟨h.os, h.tape, h.output, h.size, fun k hk _ => h.block k hk⟩
theorem grown_trans {w w1 w2 : World} {r : Option Nat} (h1 : w.grownBy w1 r) (h2 : w1.grownBy w2 r) : w.grownBy w2 r :=
  ⟨h2.os.trans h1.os, h2.tape.trans h1.tape, h2.output.trans h1.output, Nat.le_trans h1.size h2.size, fun k hk hne => (h2.block k (Nat.lt_of_lt_of_le hk h1.size) hne).trans (h1.block k hk hne)⟩
theorem below_grow {B : Nat} {w w1 w2 : World} {r : Option Nat} (h : Below B w w1) (hg : w1.grownBy w2 r) (hB : B ≤ w1.heap.size) (hr : ∀ k, r = some k → B ≤ k) : Below B w w2 :=
  ⟨hg.os.trans h.os, hg.tape.trans h.tape, hg.output.trans h.output, Nat.le_trans h.size hg.size, fun k hk => (hg.block k (by omega) (fun e => by have := hr k e.symm; omega)).trans (h.block k hk)⟩

/-- vM is a slice of the call's own that holds M, the actions' values being vf -/
def MRow (base : Nat) (w : World) (vM : Value) (M : List ResD) (vf : Nat → Value) : Prop :=
  ∃ xs, w.ownsRow base 56 4 vM M.length xs ∧ ∀ i, i < M.length → xs[i * 4]? = some (.string (rd M i).ty) ∧ xs[i * 4 + 1]? = some (.string (rd M i).cl) ∧ xs[i * 4 + 2]? = some (.string (rd M i).na) ∧ xs[i * 4 + 3]? = some (vf i)
theorem MRow.move {base : Nat} {w w' : World} {vM : Value} {M : List ResD} {vf : Nat → Value} (h : MRow base w vM M vf) (hw : ∀ g, vM.ownBlock = some g → w'.heap[g]? = w.heap[g]?) : MRow base w' vM M vf := by
  obtain ⟨xs, h1, h2⟩ := h
  refine ⟨xs, ⟨h1.1, ?_⟩, h2⟩
  rcases h1.2 with hn | ⟨g, cap, cur, rfl, hb, hg, rest⟩
  · exact .inl hn
  · exact .inr ⟨g, cap, cur, rfl, hb, (hw g rfl).trans hg, rest⟩
theorem MRow.lt {base : Nat} {w : World} {vM : Value} {M : List ResD} {vf : Nat → Value} (h : MRow base w vM M vf) {g : Nat} (hg : vM.ownBlock = some g) : base ≤ g ∧ g < w.heap.size := by
  obtain ⟨xs, h1, h2⟩ := h
  exact h1.lt g hg
theorem MRow.form {base : Nat} {w : World} {vM : Value} {M : List ResD} {vf : Nat → Value} (h : MRow base w vM M vf) : ∃ o c, vM = .slice o M.length c := by
  obtain ⟨xs, h1, h2⟩ := h
  rcases h1.2 with ⟨rfl, h0⟩ | ⟨g, cap, cur, rfl, _⟩
  · exact ⟨none, 0, by rw [h0]⟩
  · exact ⟨_, _, rfl⟩
theorem MRow.block {base : Nat} {w : World} {vM : Value} {M : List ResD} {vf : Nat → Value} (h : MRow base w vM M vf) (h0 : 0 < M.length) : ∃ g cap, vM = .slice (some ⟨g, 0, none⟩) M.length cap ∧ base ≤ g ∧ g < w.heap.size := by
  obtain ⟨xs, h1, h2⟩ := h
  exact h1.form h0
theorem MRow.cell {base : Nat} {w : World} {M : List ResD} {vf : Nat → Value} {g cap : Nat} (h : MRow base w (.slice (some ⟨g, 0, none⟩) M.length cap) M vf) {i : Nat} (hi : i < M.length) :
    (w.cell? ⟨g, i * 4, none⟩ = some (.string (rd M i).ty) ∧ w.cell? ⟨g, i * 4 + 1, none⟩ = some (.string (rd M i).cl) ∧ w.cell? ⟨g, i * 4 + 2, none⟩ = some (.string (rd M i).na) ∧ w.cell? ⟨g, i * 4 + 3, none⟩ = some (vf i)) ∧ ∀ j, w.frozen? ⟨g, j, none⟩ = false := by
  obtain ⟨xs, h1, h2⟩ := h
  obtain ⟨e0, e1, e2, e3⟩ := h2 i hi
  refine ⟨⟨?_, ?_, ?_, ?_⟩, h1.frozenAt⟩
  · rw [h1.cellAt _ (by omega)]; exact e0
  · rw [h1.cellAt _ (by omega)]; exact e1
  · rw [h1.cellAt _ (by omega)]; exact e2
  · rw [h1.cellAt _ (by omega)]; exact e3
theorem MRow.put3 {base : Nat} {w : World} {M M' : List ResD} {vf : Nat → Value} {g cap : Nat} (h : MRow base w (.slice (some ⟨g, 0, none⟩) M.length cap) M vf) {i : Nat} (hi : i < M.length) (v' : Value) (hl : M'.length = M.length) (hk : ∀ j, j < M.length → (rd M' j).ty = (rd M j).ty ∧ (rd M' j).cl = (rd M j).cl ∧ (rd M' j).na = (rd M j).na) :
    MRow base (w.setCell ⟨g, i * 4 + 3, none⟩ v') (.slice (some ⟨g, 0, none⟩) M.length cap) M' (fun j => if j = i then v' else vf j) := by
  obtain ⟨xs, h1, h2⟩ := h
  have h3 := h1.stored (i * 4 + 3) v'
  refine ⟨xs.set (i * 4 + 3) v', by rw [hl]; exact h3.1, fun j hj => ?_⟩
  rw [hl] at hj
  obtain ⟨e0, e1, e2, e3⟩ := h2 j hj
  obtain ⟨k0, k1, k2⟩ := hk j hj
  rw [k0, k1, k2]
  have hlen : xs.length = M.length * 4 := h1.1
  refine ⟨?_, ?_, ?_, ?_⟩
  · rw [List.getElem?_set_ne (by omega)]; exact e0
  · rw [List.getElem?_set_ne (by omega)]; exact e1
  · rw [List.getElem?_set_ne (by omega)]; exact e2
  · dsimp only
    by_cases e : j = i
    · subst e
      rw [if_pos rfl, List.getElem?_set_self (by omega)]
    · rw [if_neg e, List.getElem?_set_ne (by omega)]
      exact e3
theorem MRow.snoc {base : Nat} {w w' : World} {vM v' : Value} {M : List ResD} {vf : Nat → Value} {xs : List Value} {r : ResD} {u : Value} (hxs : w.ownsRow base 56 4 vM M.length xs) (h : ∀ i, i < M.length → xs[i * 4]? = some (.string (rd M i).ty) ∧ xs[i * 4 + 1]? = some (.string (rd M i).cl) ∧ xs[i * 4 + 2]? = some (.string (rd M i).na) ∧ xs[i * 4 + 3]? = some (vf i))
    (h' : w'.ownsRow base 56 4 v' (M.length + 1) (xs ++ [.string r.ty, .string r.cl, .string r.na, u])) : MRow base w' v' (M ++ [r]) (fun j => if j = M.length then u else vf j) := by
  have hlen : xs.length = M.length * 4 := hxs.1
  refine ⟨_, by rw [List.length_append]; exact h', fun i hi => ?_⟩
  rw [List.length_append] at hi
  have hi' : i < M.length + 1 := hi
  rw [rd_snoc M r i hi']
  dsimp only
  by_cases e : i = M.length
  · rw [if_pos e, if_pos e, e]
    refine ⟨?_, ?_, ?_, ?_⟩
    · rw [List.getElem?_append_right (by omega), show M.length * 4 - xs.length = 0 by omega]; rfl
    · rw [List.getElem?_append_right (by omega), show M.length * 4 + 1 - xs.length = 1 by omega]; rfl
    · rw [List.getElem?_append_right (by omega), show M.length * 4 + 2 - xs.length = 2 by omega]; rfl
    · rw [List.getElem?_append_right (by omega), show M.length * 4 + 3 - xs.length = 3 by omega]; rfl
  · rw [if_neg e, if_neg e]
    obtain ⟨e0, e1, e2, e3⟩ := h i (by omega)
    refine ⟨?_, ?_, ?_, ?_⟩
    · rw [List.getElem?_append_left (by omega)]; exact e0
    · rw [List.getElem?_append_left (by omega)]; exact e1
    · rw [List.getElem?_append_left (by omega)]; exact e2
    · rw [List.getElem?_append_left (by omega)]; exact e3

/-- the actions lie in rows of their own, apart from one another, from vM's row and from block bm -/
structure Acts (base : Nat) (w : World) (vM : Value) (bm : Nat) (M : List ResD) (vf : Nat → Value) : Prop where
  own : ∀ i, i < M.length → OwnStr base w (vf i) (rd M i).acts
  row : ∀ i, i < M.length → ∀ g, (vf i).ownBlock = some g → vM.ownBlock ≠ some g ∧ g ≠ bm
  two : ∀ i j, i < M.length → j < M.length → i ≠ j → ∀ g, (vf i).ownBlock = some g → (vf j).ownBlock ≠ some g
def MSt (base bm : Nat) (w : World) (vM : Value) (M : List ResD) : Prop := ∃ vf, MRow base w vM M vf ∧ Acts base w vM bm M vf ∧ vM.ownBlock ≠ some bm

theorem Acts.move {base : Nat} {w w' : World} {vM : Value} {bm : Nat} {M : List ResD} {vf : Nat → Value} (h : Acts base w vM bm M vf) (hw : ∀ i, i < M.length → ∀ g, (vf i).ownBlock = some g → w'.heap[g]? = w.heap[g]?) : Acts base w' vM bm M vf :=
  ⟨fun i hi => (h.own i hi).move (hw i hi), h.row, h.two⟩
theorem MSt.grow {base bm : Nat} {w w' : World} {vM : Value} {M : List ResD} (h : MSt base bm w vM M) (hb : Below w.heap.size w w') : MSt base bm w' vM M := by
  obtain ⟨vf, h1, h2, h3⟩ := h
  exact ⟨vf, h1.move fun g hg => hb.block g (h1.lt hg).2, h2.move fun i hi g hg => hb.block g ((h2.own i hi).lt hg).2, h3⟩
theorem MSt.start (base bm : Nat) (w : World) : MSt base bm w (.slice none 0 0) [] :=
  ⟨fun _ => undef, ⟨[], World.ownsRow_nil w base 56 4, fun i hi => absurd hi (Nat.not_lt_zero _)⟩, ⟨fun i hi => absurd hi (Nat.not_lt_zero _), fun i hi => absurd hi (Nat.not_lt_zero _), fun i _ hi => absurd hi (Nat.not_lt_zero _)⟩, by simp [Value.ownBlock]⟩
theorem MSt.sl {base bm : Nat} {w : World} {vM : Value} {M : List ResD} (h : MSt base bm w vM M) : On (fun g => base ≤ g ∧ g < w.heap.size) (fun w => ResSl w vM M) w := by
  obtain ⟨vf, h1, h2, h3⟩ := h
  intro w' hw
  have h1' := h1.move (w' := w') fun g hg => hw g (h1.lt hg)
  obtain ⟨o, c, rfl⟩ := h1.form
  obtain ⟨xs, hx, _⟩ := h1'
  have hc : M.length ≤ c := by
    rcases hx.2 with ⟨e, h0⟩ | ⟨g, cap, cur, e, hb, hg, h5, _⟩
    · omega
    · cases e
      exact h5
  refine ⟨o, c, rfl, hc, fun h0 => ?_⟩
  obtain ⟨g, cap, e, _, _⟩ := h1.block h0
  cases e
  refine ⟨g, 0, rfl, fun i hi => ?_⟩
  have h1' := h1.move (w' := w') fun g hg => hw g (h1.lt hg)
  obtain ⟨⟨c0, c1, c2, c3⟩, _⟩ := h1'.cell hi
  rw [Nat.zero_add]
  exact ⟨c0, c1, c2, _, c3, ((h2.own i hi).move fun g hg => hw g ((h2.own i hi).lt hg)).at⟩

/-- merged[i].Actions = append(merged[i].Actions, resource.Actions...) -/
theorem mst_merge {base bm : Nat} {w w' : World} {M : List ResD} {vf : Nat → Value} {g cap i : Nat} {r : ResD} {v' : Value} (h1 : MRow base w (.slice (some ⟨g, 0, none⟩) M.length cap) M vf) (h2 : Acts base w (.slice (some ⟨g, 0, none⟩) M.length cap) bm M vf) (h3 : g ≠ bm) (hbm : bm < w.heap.size) (hi : i < M.length) (hs : sameK (rd M i) r = true) (hu : KU M)
    (hg : w.grownBy w' (vf i).ownBlock) (ho : OwnStr base w' v' ((rd M i).acts ++ r.acts)) (hat : v'.ownBlock = (vf i).ownBlock ∨ v'.ownBlock = some w.heap.size) :
    MSt base bm (w'.setCell ⟨g, i * 4 + 3, none⟩ v') (.slice (some ⟨g, 0, none⟩) (mergeStep M r).length cap) (mergeStep M r) := by
  obtain ⟨hl, hst⟩ := step_hit hi hs hu
  have hgl : g < w.heap.size := (h1.lt rfl).2
  have hgi : ∀ g', (vf i).ownBlock = some g' → g' ≠ g := fun g' e e' => (h2.row i hi g' e).1 (by rw [e']; rfl)
  have hv'g : ∀ g', v'.ownBlock = some g' → g' ≠ g := fun g' e => by
    rcases hat with h | h
    · exact hgi g' (h ▸ e)
    · rw [h] at e
      cases e
      omega
  have h1' := h1.move (w' := w') fun g' e => hg.block g' (h1.lt e).2 fun e' => by
    cases e
    exact hgi g e'.symm rfl
  refine ⟨fun j => if j = i then v' else vf j, ?_, ⟨fun j hj => ?_, fun j hj g' e => ?_, fun j j' hj hj' hne g' e e' => ?_⟩, fun e => h3 (Option.some.inj e)⟩
  · rw [hl]
    exact h1'.put3 hi v' hl fun j hj => by
      rw [hst j hj]
      split <;> exact ⟨rfl, rfl, rfl⟩
  · rw [hl] at hj
    rw [hst j hj]
    by_cases ej : j = i
    · subst ej
      rw [if_pos rfl, if_pos rfl]
      exact OwnStr.move (show OwnStr base w' v' (addA (rd M j) r.acts).acts from ho) fun g' e => set_other (hv'g g' e)
    · rw [if_neg ej, if_neg ej]
      refine ((h2.own j hj).move (w' := w') fun g' e => hg.block g' ((h2.own j hj).lt e).2 fun e' => h2.two j i hj hi ej g' e e'.symm).move fun g' e => set_other fun e' => (h2.row j hj g' e).1 (by rw [e']; rfl)
  · rw [hl] at hj ⊢
    by_cases ej : j = i
    · subst ej
      rw [if_pos rfl] at e
      refine ⟨fun e' => hv'g g' e (Option.some.inj e').symm, ?_⟩
      rcases hat with h | h
      · exact (h2.row j hj g' (h ▸ e)).2
      · rw [h] at e
        cases e
        omega
    · rw [if_neg ej] at e
      exact h2.row j hj g' e
  · rw [hl] at hj hj'
    by_cases ej : j = i
    · subst ej
      rw [if_pos rfl] at e
      rw [if_neg (Ne.symm hne)] at e'
      rcases hat with h | h
      · exact h2.two j j' hj hj' hne g' (h ▸ e) e'
      · rw [h] at e
        cases e
        exact absurd ((h2.own j' hj').lt e').2 (by omega)
    · rw [if_neg ej] at e
      by_cases ej' : j' = i
      · subst ej'
        rw [if_pos rfl] at e'
        rcases hat with h | h
        · exact h2.two j j' hj hj' hne g' e (h ▸ e')
        · rw [h] at e'
          cases e'
          exact absurd ((h2.own j hj).lt e).2 (by omega)
      · rw [if_neg ej'] at e'
        exact h2.two j j' hj hj' hne g' e e'

/-- merged = append(merged, resource) -/
theorem mst_snoc {base bm : Nat} {w0 w w' : World} {vM v'' : Value} {M : List ResD} {vf : Nat → Value} {r : ResD} {u : Value} {xs : List Value}
    (hxs : w0.ownsRow base 56 4 vM M.length xs) (hx : ∀ i, i < M.length → xs[i * 4]? = some (.string (rd M i).ty) ∧ xs[i * 4 + 1]? = some (.string (rd M i).cl) ∧ xs[i * 4 + 2]? = some (.string (rd M i).na) ∧ xs[i * 4 + 3]? = some (vf i))
    (h2 : Acts base w0 vM bm M vf) (h3 : vM.ownBlock ≠ some bm) (hbm : bm < w0.heap.size)
    (hsz : w0.heap.size ≤ w.heap.size) (hfr : ∀ k, k < w0.heap.size → k ≠ bm → w.heap[k]? = w0.heap[k]?)
    (ho : OwnStr base w u r.acts) (hu : ∀ g, u.ownBlock = some g → w0.heap.size ≤ g)
    (hown : w'.ownsRow base 56 4 v'' (M.length + 1) (xs ++ [.string r.ty, .string r.cl, .string r.na, u])) (hg : w.grownBy w' vM.ownBlock) (hat : v''.ownBlock = vM.ownBlock ∨ v''.ownBlock = some w.heap.size) :
    MSt base bm w' v'' (M ++ [r]) := by
  have hmv : ∀ g, vM.ownBlock = some g → base ≤ g ∧ g < w0.heap.size := fun g e => hxs.lt g e
  refine ⟨fun j => if j = M.length then u else vf j, MRow.snoc hxs hx hown, ⟨fun j hj => ?_, fun j hj g e => ?_, fun j j' hj hj' hne g e e' => ?_⟩, ?_⟩
  · rw [List.length_append] at hj
    have hj' : j < M.length + 1 := hj
    rw [rd_snoc M r j hj']
    by_cases ej : j = M.length
    · rw [if_pos ej, if_pos ej]
      refine ho.move fun g e => hg.block g (ho.lt e).2 fun e' => ?_
      have h5 := hu g e
      have h6 := hmv g e'.symm
      omega
    · rw [if_neg ej, if_neg ej]
      have hj2 : j < M.length := by omega
      refine (h2.own j hj2).move fun g e => ?_
      have h5 := (h2.own j hj2).lt e
      have h6 := h2.row j hj2 g e
      rw [hg.block g (by omega) (fun e' => h6.1 e'.symm), hfr g h5.2 h6.2]
  · rw [List.length_append] at hj
    have hj' : j < M.length + 1 := hj
    by_cases ej : j = M.length
    · rw [if_pos ej] at e
      have h5 := hu g e
      have h6 := (ho.lt e).2
      refine ⟨fun e' => ?_, by omega⟩
      rcases hat with h | h
      · have := hmv g (h ▸ e')
        omega
      · rw [h] at e'
        cases e'
        omega
    · rw [if_neg ej] at e
      have hj2 : j < M.length := by omega
      have h5 := (h2.own j hj2).lt e
      have h6 := h2.row j hj2 g e
      refine ⟨fun e' => ?_, h6.2⟩
      rcases hat with h | h
      · exact h6.1 (h ▸ e')
      · rw [h] at e'
        cases e'
        omega
  · rw [List.length_append] at hj hj'
    have hj1 : j < M.length + 1 := hj
    have hj1' : j' < M.length + 1 := hj'
    by_cases ej : j = M.length
    · rw [if_pos ej] at e
      rw [if_neg (by omega)] at e'
      have h5 := hu g e
      have h6 := ((h2.own j' (by omega)).lt e').2
      omega
    · rw [if_neg ej] at e
      by_cases ej' : j' = M.length
      · rw [if_pos ej'] at e'
        have h5 := hu g e'
        have h6 := ((h2.own j (by omega)).lt e).2
        omega
      · rw [if_neg ej'] at e'
        exact h2.two j j' (by omega) (by omega) hne g e e'
  · rcases hat with h | h
    · rw [h]; exact h3
    · rw [h]
      intro e
      cases e
      omega

/-- what the map holds: at each key of M its place -/
structure Tie (D : DataW Unit) (M : List ResD) : Prop where
  map : IsMap D
  has : ∀ (r : ResD) (l : Lit), keyOf Tryd.prog 92 (.agg #[.string r.ty, .string r.cl, .string r.na]) = some l → Maps.has D l = M.any (sameK · r)
  at_ : ∀ (r : ResD) (l : Lit), keyOf Tryd.prog 92 (.agg #[.string r.ty, .string r.cl, .string r.na]) = some l → ∀ i, i < M.length → sameK (rd M i) r = true → D.atKey l (.lit (.int .i64 0)) = .lit (.int .i64 i)
theorem Tie.start : Tie (.map []) [] := ⟨isMap_empty, fun _ _ _ => rfl, fun _ _ _ _ hi => absurd hi (Nat.not_lt_zero _)⟩
theorem Tie.hit {D : DataW Unit} {M : List ResD} (h : Tie D M) {r : ResD} {i : Nat} (hi : i < M.length) (hs : sameK (rd M i) r = true) (hu : KU M) : Tie D (mergeStep M r) := by
  obtain ⟨hl, hst⟩ := step_hit hi hs hu
  have hk : ∀ j, j < M.length → ∀ s, sameK (rd (mergeStep M r) j) s = sameK (rd M j) s := fun j hj s => by
    rw [hst j hj]
    split <;> rfl
  refine ⟨h.map, fun s l hl' => ?_, fun s l hl' j hj hsj => ?_⟩
  · rw [h.has s l hl']
    refine bool_iff ⟨fun e => ?_, fun e => ?_⟩
    · obtain ⟨j, hj, e⟩ := any_true e
      refine List.any_eq_true.2 ⟨rd (mergeStep M r) j, ?_, by rw [hk j hj]; exact e⟩
      unfold rd
      rw [List.getD_eq_getElem?_getD, List.getElem?_eq_getElem (by omega)]
      exact List.getElem_mem (by omega)
    · obtain ⟨j, hj, e⟩ := any_true e
      rw [hl] at hj
      refine List.any_eq_true.2 ⟨rd M j, ?_, by rw [← hk j hj]; exact e⟩
      unfold rd
      rw [List.getD_eq_getElem?_getD, List.getElem?_eq_getElem hj]
      exact List.getElem_mem hj
  · rw [hl] at hj
    rw [hk j hj] at hsj
    exact h.at_ s l hl' j hj hsj
theorem Tie.new {D : DataW Unit} {M : List ResD} (h : Tie D M) {r : ResD} {l : Lit} (hl : keyOf Tryd.prog 92 (.agg #[.string r.ty, .string r.cl, .string r.na]) = some l) (hn : M.any (sameK · r) = false) : Tie (D.put l (.lit (.int .i64 M.length))) (mergeStep M r) := by
  rw [step_new hn]
  have hkey := Tryd.keyed92.key hl
  have same : ∀ (s : ResD) (l' : Lit), keyOf Tryd.prog 92 (.agg #[.string s.ty, .string s.cl, .string s.na]) = some l' → (l' = l ↔ sameK r s = true) := fun s l' hl' => by
    constructor
    · intro e
      rw [e] at hl'
      obtain ⟨e1, e2, e3⟩ := key92_inj hl hl'
      exact sameK_iff.2 ⟨e1, e2, e3⟩
    · intro e
      obtain ⟨e1, e2, e3⟩ := sameK_iff.1 e
      rw [← e1, ← e2, ← e3, hl] at hl'
      exact (Option.some.inj hl').symm
  refine ⟨h.map.put _ _, fun s l' hl' => ?_, fun s l' hl' i hi hs => ?_⟩
  · rw [List.any_append]
    by_cases e : l' = l
    · subst e
      rw [has_put_same h.map hkey]
      have := (same s l' hl').1 rfl
      simp [this]
    · rw [has_put_other e, h.has s l' hl']
      have : sameK r s = false := by
        cases hb : sameK r s
        · rfl
        · exact absurd ((same s l' hl').2 hb) e
      simp [this]
  · rw [List.length_append] at hi
    have hi' : i < M.length + 1 := hi
    rw [rd_snoc M r i hi'] at hs
    by_cases e : l' = l
    · subst e
      by_cases ei : i = M.length
      · rw [atKey_put_same h.map hkey, ei]
      · rw [if_neg ei] at hs
        have h5 := (same s l' hl').1 rfl
        rw [sameK_symm] at h5
        have h6 := sameK_trans hs h5
        rw [any_false hn i (by omega)] at h6
        cases h6
    · by_cases ei : i = M.length
      · rw [if_pos ei] at hs
        exact absurd ((same s l' hl').2 hs) e
      · rw [if_neg ei] at hs
        rw [atKey_put_other e]
        exact h.at_ s l' hl' i (by omega) hs
end Go.Proofs.Qxb6601693aDoor
