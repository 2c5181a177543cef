import Derived.Test.Qxb6601693aDoorD2
namespace Go.Proofs.Qxb6601693aDoor
open Go.RowKit

/-- granted: a slice of the call's own that holds G; the actions lie elsewhere -/
def GSt (base : Nat) (w : World) (vG : Value) (G : List ResD) : Prop :=
  (∃ a n c, vG = .slice (some a) n c) ∧ ∃ vf, MRow base w vG G vf ∧ ∀ i, i < G.length → On (fun g => g < w.heap.size ∧ vG.ownBlock ≠ some g) (fun w => StrAt w (vf i) (rd G i).acts) w
theorem GSt.start (w : World) : GSt w.heap.size (w.alloc (.cells #[] 56)) (.slice (some ⟨w.heap.size, 0, none⟩) 0 0) [] :=
  ⟨⟨_, _, _, rfl⟩, fun _ => undef, ⟨[], World.ownsRow_made w #[] 0 (Nat.le_refl _) (Nat.zero_le _) rfl, fun _ hi => absurd hi (Nat.not_lt_zero _)⟩, fun _ hi => absurd hi (Nat.not_lt_zero _)⟩
theorem GSt.grow {base : Nat} {w w' : World} {vG : Value} {G : List ResD} (h : GSt base w vG G) (hb : Below w.heap.size w w') : GSt base w' vG G := by
  obtain ⟨h0, vf, h1, h2⟩ := h
  exact ⟨h0, vf, h1.move fun g hg => hb.block g (h1.lt hg).2, fun i hi => ((h2 i hi).move fun g hg => hb.block g hg.1).mono fun g hg => ⟨Nat.lt_of_lt_of_le hg.1 hb.size, hg.2⟩⟩
theorem GSt.sl {base : Nat} {w : World} {vG : Value} {G : List ResD} (h : GSt base w vG G) : ResSl w vG G := by
  obtain ⟨_, vf, h1, h2⟩ := h
  obtain ⟨o, c, rfl⟩ := h1.form
  have hc : G.length ≤ c := by
    obtain ⟨xs, hx, _⟩ := h1
    rcases hx.2 with ⟨e, h0⟩ | ⟨g, cap, cur, e, hb, hg, h5, _⟩
    · omega
    · cases e
      exact h5
  refine ⟨_, c, rfl, hc, fun h0 => ?_⟩
  obtain ⟨g, cap, e, _, _⟩ := h1.block h0
  cases e
  refine ⟨g, 0, rfl, fun i hi => ?_⟩
  obtain ⟨⟨c0, c1, c2, c3⟩, _⟩ := h1.cell hi
  rw [Nat.zero_add]
  exact ⟨c0, c1, c2, _, c3, (h2 i hi).out⟩
theorem GSt.snoc {base : Nat} {w0 w w' : World} {vG v'' : Value} {G : List ResD} {vf : Nat → Value} {r : ResD} {u : Value} {xs : List Value}
    (hxs : w0.ownsRow base 56 4 vG G.length xs) (hx : ∀ i, i < G.length → xs[i * 4]? = some (.string (rd G i).ty) ∧ xs[i * 4 + 1]? = some (.string (rd G i).cl) ∧ xs[i * 4 + 2]? = some (.string (rd G i).na) ∧ xs[i * 4 + 3]? = some (vf i))
    (h2 : ∀ i, i < G.length → On (fun g => g < w0.heap.size ∧ vG.ownBlock ≠ some g) (fun w => StrAt w (vf i) (rd G i).acts) w0)
    (hb : Below w0.heap.size w0 w) (hu : On (fun g => w0.heap.size ≤ g ∧ g < w.heap.size) (fun w => StrAt w u r.acts) w)
    (hown : w'.ownsRow base 56 4 v'' (G.length + 1) (xs ++ [.string r.ty, .string r.cl, .string r.na, u])) (hg : w.grownBy w' vG.ownBlock) (hat : v''.ownBlock = vG.ownBlock ∨ v''.ownBlock = some w.heap.size) :
    GSt base w' v'' (G ++ [r]) := by
  have hmv : ∀ g, vG.ownBlock = some g → base ≤ g ∧ g < w0.heap.size := fun g e => hxs.lt g e
  have hrow := MRow.snoc hxs hx hown
  have hsz := hb.size
  refine ⟨?_, fun j => if j = G.length then u else vf j, hrow, fun j hj => ?_⟩
  · obtain ⟨g, cap, e, _⟩ := hrow.block (by rw [List.length_append]; simp)
    exact ⟨_, _, _, e⟩
  · rw [List.length_append] at hj
    have hj' : j < G.length + 1 := hj
    rw [rd_snoc G r j hj']
    dsimp only
    by_cases ej : j = G.length
    · rw [if_pos ej, if_pos ej]
      refine (hu.move (w' := w') fun g hgg => hg.block g hgg.2 fun e => ?_).mono fun g hgg => ⟨Nat.lt_of_lt_of_le hgg.2 hg.size, fun e => ?_⟩
      · have := (hmv g e.symm).2
        omega
      · rcases hat with h | h
        · have := (hmv g (h ▸ e)).2
          omega
        · rw [h] at e
          cases e
          omega
    · rw [if_neg ej, if_neg ej]
      refine ((h2 j (by omega)).move (w' := w') fun g hgg => ?_).mono fun g hgg => ⟨Nat.lt_of_lt_of_le (by omega) hg.size, fun e => ?_⟩
      · rw [hg.block g (by omega) (fun e => hgg.2 e.symm), hb.block g hgg.1]
      · rcases hat with h | h
        · exact hgg.2 (h ▸ e)
        · rw [h] at e
          cases e
          omega

theorem take_snoc {α : Type} (l : List α) (k : Nat) (d : α) (h : k < l.length) : l.take (k + 1) = l.take k ++ [l.getD k d] := by
  rw [List.take_succ_eq_append_getElem h, List.getD_eq_getElem?_getD, List.getElem?_eq_getElem h]
  rfl
/-- the actions that the first j rules allow -/
def allowTo (M : RuleD → ByteArray → Bool) (acct : ByteArray) (rules : List RuleD) (e : ResD) (j : Nat) : List ByteArray := allowedL M acct (rules.take j) e
theorem allowTo_zero (M : RuleD → ByteArray → Bool) (acct : ByteArray) (rules : List RuleD) (e : ResD) : allowTo M acct rules e 0 = [] := rfl
theorem allowTo_all (M : RuleD → ByteArray → Bool) (acct : ByteArray) (rules : List RuleD) (e : ResD) : allowTo M acct rules e rules.length = allowedL M acct rules e := by
  unfold allowTo
  rw [List.take_length]
theorem allowTo_step (M : RuleD → ByteArray → Bool) (acct : ByteArray) (rules : List RuleD) (e : ResD) (j : Nat) (hj : j < rules.length) : allowTo M acct rules e (j + 1) = allowTo M acct rules e j ++ (if applB M acct (rules.getD j RuleD.none) e then (rules.getD j RuleD.none).acts else []) := by
  unfold allowTo allowedL
  rw [take_snoc rules j RuleD.none hj, List.filter_append, List.flatMap_append]
  congr 1
  generalize rules.getD j RuleD.none = r
  cases h : applB M acct r e <;> simp [h]
theorem allowTo_len (M : RuleD → ByteArray → Bool) (acct : ByteArray) (rules : List RuleD) (e : ResD) (h : ∀ i, i < rules.length → (rules.getD i RuleD.none).acts.length ≤ 1048576) : ∀ j, j ≤ rules.length → (allowTo M acct rules e j).length ≤ j * 1048576
  | 0, _ => Nat.le_refl _
  | j + 1, hj => by
    rw [allowTo_step M acct rules e j (by omega), List.length_append, Nat.succ_mul]
    refine Nat.add_le_add (allowTo_len M acct rules e h j (by omega)) ?_
    split
    · exact h j (by omega)
    · exact Nat.zero_le _
/-- the actions granted among the first a -/
def okTo (al : List ByteArray) (acts : List ByteArray) (a : Nat) : List ByteArray := (acts.take a).filter (okAct al)
theorem okTo_step (al acts : List ByteArray) (a : Nat) (h : a < acts.length) : okTo al acts (a + 1) = okTo al acts a ++ (if okAct al (acts.getD a ByteArray.empty) then [acts.getD a ByteArray.empty] else []) := by
  unfold okTo
  rw [take_snoc acts a ByteArray.empty h]
  exact filter_snoc _ _ _
theorem okTo_len (al acts : List ByteArray) (a : Nat) : (okTo al acts a).length ≤ a := by
  unfold okTo
  exact Nat.le_trans (List.length_filter_le _ _) (by rw [List.length_take]; omega)
theorem okTo_all (al acts : List ByteArray) : okTo al acts acts.length = acts.filter (okAct al) := by
  unfold okTo
  rw [List.take_length]
/-- what is granted of the first k -/
def grTo (M : RuleD → ByteArray → Bool) (acct : ByteArray) (rules : List RuleD) (L : List ResD) (k : Nat) : List ResD := (L.take k).filterMap (grant1 M acct rules)
theorem grTo_none (M : RuleD → ByteArray → Bool) (acct : ByteArray) (rules : List RuleD) (L : List ResD) (k : Nat) (hk : k < L.length) (h : grantA M acct rules (rd L k) = []) : grTo M acct rules L (k + 1) = grTo M acct rules L k := by
  unfold grTo
  rw [take_snoc L k ResD.none hk, List.filterMap_append]
  have : grant1 M acct rules (L.getD k ResD.none) = none := by unfold grant1; rw [if_pos h]
  simp only [List.filterMap_cons, List.filterMap_nil, this, List.append_nil]
theorem grTo_some (M : RuleD → ByteArray → Bool) (acct : ByteArray) (rules : List RuleD) (L : List ResD) (k : Nat) (hk : k < L.length) (h : grantA M acct rules (rd L k) ≠ []) : grTo M acct rules L (k + 1) = grTo M acct rules L k ++ [{ rd L k with acts := sortL (grantA M acct rules (rd L k)) }] := by
  unfold grTo
  rw [take_snoc L k ResD.none hk, List.filterMap_append]
  have : grant1 M acct rules (L.getD k ResD.none) = some { rd L k with acts := sortL (grantA M acct rules (rd L k)) } := by unfold grant1; rw [if_neg h]
  simp only [List.filterMap_cons, List.filterMap_nil, this]
theorem grTo_all (M : RuleD → ByteArray → Bool) (acct : ByteArray) (rules : List RuleD) (L : List ResD) : grTo M acct rules L L.length = L.filterMap (grant1 M acct rules) := by
  unfold grTo
  rw [List.take_length]
theorem grTo_len (M : RuleD → ByteArray → Bool) (acct : ByteArray) (rules : List RuleD) (L : List ResD) (k : Nat) : (grTo M acct rules L k).length ≤ k := by
  unfold grTo
  exact Nat.le_trans (List.length_filterMap_le _ _) (by rw [List.length_take]; omega)
end Go.Proofs.Qxb6601693aDoor
