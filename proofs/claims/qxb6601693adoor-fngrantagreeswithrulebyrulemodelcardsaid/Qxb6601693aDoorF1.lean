import Derived.Test.Qxb6601693aDoorG4
import Derived.SliceStrings
import Derived.Deep.Slices
import Derived.ChangeArms
namespace Go.Proofs.Qxb6601693aDoor
open Go Go.ChangeShapes Go.Deep

theorem len4 {α : Type} {l : List α} (h : l.length = 4) : ∃ a b c d, l = [a, b, c, d] := by
  match l, h with
  | [a, b, c, d], _ => exact ⟨a, b, c, d, rfl⟩
theorem len5 {α : Type} {l : List α} (h : l.length = 5) : ∃ a b c d e, l = [a, b, c, d, e] := by
  match l, h with
  | [a, b, c, d, e], _ => exact ⟨a, b, c, d, e, rfl⟩
theorem addr_plain {w : World} {a : Addr} {v : Value} (h : w.cell? a = some v) : a = ⟨a.block, a.off, none⟩ := by
  obtain ⟨b, f, sp⟩ := a
  cases sp with
  | none => rfl
  | some x =>
    unfold World.cell? at h
    split at h
    · simp at h
    · cases h
theorem list_of {α : Type} (d : α) (Q : Nat → α → Prop) : ∀ n, (∀ i, i < n → ∃ r, Q i r) → ∃ l : List α, l.length = n ∧ ∀ i, i < n → Q i (l.getD i d)
  | 0, _ => ⟨[], rfl, fun i hi => absurd hi (Nat.not_lt_zero _)⟩
  | n + 1, h => by
    obtain ⟨l, hl, hq⟩ := list_of d Q n fun i hi => h i (by omega)
    obtain ⟨r, hr⟩ := h n (by omega)
    refine ⟨l ++ [r], by simp [hl], fun i hi => ?_⟩
    rw [List.getD_eq_getElem?_getD]
    by_cases e : i = n
    · subst e
      rw [List.getElem?_append_right (by omega), hl, Nat.sub_self]
      exact hr
    · rw [List.getElem?_append_left (by omega), ← List.getD_eq_getElem?_getD]
      exact hq i (by omega)
section
variable {H : Type} {enc : TypeId × Value → H} {w : World} {base : Nat} {spare : Nat → Bool} {held : Bool}
theorem Tryd.cellsN9 : Tryd.prog.cellsOf 9 = 1 := by kernel_rfl
theorem Tryd.cellsN22 : Tryd.prog.cellsOf 22 = 1 := by kernel_rfl
theorem Tryd.cellsN4 : Tryd.prog.cellsOf 4 = 1 := by kernel_rfl
theorem Tryd.cellsN47 : Tryd.prog.cellsOf 47 = 4 := by kernel_rfl
theorem Tryd.cellsN49 : Tryd.prog.cellsOf 49 = 5 := by kernel_rfl

theorem open_strs_at {fuel : Nat} {v : Value} {x : DataW H × List MemPlace} (h : DataW.trod enc Tryd.prog w base spare held fuel 22 [v] = some x) : ∃ ss, StrAt w v ss ∧ StrsFit ss := by
  rcases open_strings Tryd.underlying22 Tryd.underlying9 Tryd.cellsN9 h with ⟨hcs, _⟩ | ⟨a, len, cap, ss, hcs, _, hl, hm, hz, _, hcell, hws⟩
  · cases hcs
    exact ⟨[], ⟨none, 0, rfl, Nat.le_refl _, fun h => absurd h (Nat.not_lt_zero _)⟩, Nat.zero_le _, fun i hi => absurd hi (Nat.not_lt_zero _)⟩
  · cases hcs
    have hle : len ≤ ss.length := by rw [hz]; split <;> omega
    have hlen : (ss.take len).length = len := by rw [List.length_take]; omega
    refine ⟨ss.take len, ⟨some a, cap, by rw [hlen], by rw [hlen]; exact hl, fun h0 => ?_⟩, by rw [hlen]; omega, fun i hi => ?_⟩
    · rw [hlen] at h0
      have hc0 := hcell 0 (by omega)
      have ha : a = ⟨a.block, a.off, none⟩ := addr_plain (show w.cell? a = _ from by simpa [Addr.add] using hc0)
      refine ⟨a.block, a.off, by rw [← ha], fun i hi => ?_⟩
      rw [hlen] at hi
      have hc := hcell i (by omega)
      rw [ha, Addr.add_lit] at hc
      rw [hc, List.getD_eq_getElem?_getD, List.getD_eq_getElem?_getD, List.getElem?_take, if_pos hi]
    · rw [hlen] at hi
      rw [List.getD_eq_getElem?_getD, List.getElem?_take, if_pos hi, List.getElem?_eq_getElem (by omega)]
      exact hws _ (List.getElem_mem _)
theorem open_res {fuel : Nat} {cs : List Value} {x : DataW H × List MemPlace} (h : DataW.trod enc Tryd.prog w base spare held fuel 47 cs = some x) : ∃ (r : ResD) (v : Value), cs = [.string r.ty, .string r.cl, .string r.na, v] ∧ StrAt w v r.acts ∧ ResFit r := by
  obtain ⟨xs, n, _, _, hl, hx, hf⟩ := DataW.trod_struct Tryd.underlying47 h
  rw [Tryd.cellsN47] at hl
  obtain ⟨c0, c1, c2, c3, rfl⟩ := len4 hl
  · have hxs : xs.length = 4 := hx
    obtain ⟨y0, y1, y2, y3, rfl⟩ := len4 hxs
    · have f0 : DataW.trod enc Tryd.prog w base spare held n 9 [c0] = some y0 := by
        have := hf 0 _ rfl
        simpa [Tryd.cellsN9] using this
      have f1 : DataW.trod enc Tryd.prog w base spare held n 9 [c1] = some y1 := by
        have := hf 1 _ rfl
        simpa [Tryd.cellsN9] using this
      have f2 : DataW.trod enc Tryd.prog w base spare held n 9 [c2] = some y2 := by
        have := hf 2 _ rfl
        simpa [Tryd.cellsN9] using this
      have f3 : DataW.trod enc Tryd.prog w base spare held n 22 [c3] = some y3 := by
        have := hf 3 _ rfl
        simpa [Tryd.cellsN22] using this
      obtain ⟨s0, e0, _, z0⟩ := DataW.trod_string Tryd.underlying9 f0
      obtain ⟨s1, e1, _, z1⟩ := DataW.trod_string Tryd.underlying9 f1
      obtain ⟨s2, e2, _, z2⟩ := DataW.trod_string Tryd.underlying9 f2
      obtain ⟨ss, h3, z3⟩ := open_strs_at f3
      cases e0; cases e1; cases e2
      exact ⟨⟨s0, s1, s2, ss⟩, c3, rfl, h3, z0, z1, z2, z3⟩
theorem open_rule {fuel : Nat} {cs : List Value} {x : DataW H × List MemPlace} (h : DataW.trod enc Tryd.prog w base spare held fuel 49 cs = some x) : ∃ (r : RuleD) (v v' : Value), cs = [.string r.ac, .string r.ty, v, .bool r.us, v'] ∧ StrAt w v r.lits ∧ StrAt w v' r.acts ∧ RuleFit r := by
  obtain ⟨xs, n, _, _, hl, hx, hf⟩ := DataW.trod_struct Tryd.underlying49 h
  rw [Tryd.cellsN49] at hl
  obtain ⟨c0, c1, c2, c3, c4, rfl⟩ := len5 hl
  · have hxs : xs.length = 5 := hx
    obtain ⟨y0, y1, y2, y3, y4, rfl⟩ := len5 hxs
    · have f0 : DataW.trod enc Tryd.prog w base spare held n 9 [c0] = some y0 := by
        have := hf 0 _ rfl
        simpa [Tryd.cellsN9] using this
      have f1 : DataW.trod enc Tryd.prog w base spare held n 9 [c1] = some y1 := by
        have := hf 1 _ rfl
        simpa [Tryd.cellsN9] using this
      have f2 : DataW.trod enc Tryd.prog w base spare held n 22 [c2] = some y2 := by
        have := hf 2 _ rfl
        simpa [Tryd.cellsN22] using this
      have f3 : DataW.trod enc Tryd.prog w base spare held n 4 [c3] = some y3 := by
        have := hf 3 _ rfl
        simpa [Tryd.cellsN4] using this
      have f4 : DataW.trod enc Tryd.prog w base spare held n 22 [c4] = some y4 := by
        have := hf 4 _ rfl
        simpa [Tryd.cellsN22] using this
      obtain ⟨s0, e0, _, z0⟩ := DataW.trod_string Tryd.underlying9 f0
      obtain ⟨s1, e1, _, z1⟩ := DataW.trod_string Tryd.underlying9 f1
      obtain ⟨s2, h2, z2⟩ := open_strs_at f2
      obtain ⟨b3, e3, _⟩ := DataW.trod_bool Tryd.underlying4 f3
      obtain ⟨s4, h4, z4⟩ := open_strs_at f4
      cases e0; cases e1; cases e3
      exact ⟨⟨s0, s1, s2, b3, s4⟩, c2, c4, rfl, h2, h4, z0, z1, z2, z4⟩
theorem cells_at {a : Addr} {n : Nat} {cs : List Value} (h : w.cells? base a n = some cs) : ∀ i v, cs[i]? = some v → w.cell? (a.add i) = some v := by
  unfold World.cells? at h
  split at h
  · intro i v hv
    have h1 := mapM_some_length h
    have hi : i < n := by
      have := (List.getElem?_eq_some_iff.1 hv).1
      simp at h1
      omega
    have h2 := mapM_some_get h i i (by simp [hi])
    rw [h2, hv]
  · cases h
theorem add_add (a : Addr) (i j : Nat) (hs : a.spot = none) : (a.add i).add j = ⟨a.block, a.off + i + j, none⟩ := by
  obtain ⟨b, f, sp⟩ := a
  cases hs
  rw [Addr.add_lit, Addr.add_lit]
theorem open_asked {fuel : Nat} {v : Value} {x : DataW H × List MemPlace} (h : DataW.trod enc Tryd.prog w base spare held fuel 34 [v] = some x) : ∃ rs, ResSl w v rs ∧ rs.length ≤ maxLen ∧ ∀ i, i < rs.length → ResFit (rs.getD i ResD.none) := by
  rcases open_slice Tryd.underlying34 h with ⟨hcs, _⟩ | ⟨a, len, cap, m, n, D, Pl, hcs, _, hl, hm, hmm, _, hel⟩
  · cases hcs
    exact ⟨[], ⟨none, 0, rfl, Nat.le_refl _, fun h => absurd h (Nat.not_lt_zero _)⟩, Nat.zero_le _, fun i hi => absurd hi (Nat.not_lt_zero _)⟩
  · cases hcs
    have hle : len ≤ m := by rw [hmm]; split <;> omega
    rw [Tryd.cellsN47] at hel
    have hall : ∀ i, i < len → ∃ r : ResD, (a.spot = none ∧ ResAt w a.block (a.off + i * 4) r) ∧ ResFit r := fun i hi => by
      obtain ⟨cs', h1, h2⟩ := hel i (by omega)
      obtain ⟨r, v', rfl, h3, h4⟩ := open_res h2
      have hc := cells_at h1
      have ha : a.spot = none := by
        have h0 := (hel 0 (by omega))
        obtain ⟨cs0, g1, g2⟩ := h0
        obtain ⟨r0, v0, rfl, _, _⟩ := open_res g2
        have g3 := cells_at g1 0 _ rfl
        have g4 : w.cell? a = some (.string r0.ty) := by simpa [Addr.add] using g3
        rw [addr_plain g4]
      have c0 := hc 0 _ rfl
      have c1 := hc 1 _ rfl
      have c2 := hc 2 _ rfl
      have c3 := hc 3 _ rfl
      rw [add_add a _ _ ha] at c0 c1 c2 c3
      exact ⟨r, ⟨ha, c0, c1, c2, v', c3, h3⟩, h4⟩
    obtain ⟨rs, hrl, hrs⟩ := list_of ResD.none (fun i r => (a.spot = none ∧ ResAt w a.block (a.off + i * 4) r) ∧ ResFit r) len hall
    refine ⟨rs, ⟨some a, cap, by rw [hrl], by rw [hrl]; exact hl, fun h0 => ⟨a.block, a.off, ?_, fun i hi => (hrs i (by omega)).1.2⟩⟩, by omega, fun i hi => (hrs i (by omega)).2⟩
    have ha := (hrs 0 (by omega)).1.1
    obtain ⟨b, f, sp⟩ := a
    cases ha
    rfl
theorem open_rules {fuel : Nat} {v : Value} {x : DataW H × List MemPlace} (h : DataW.trod enc Tryd.prog w base spare held fuel 33 [v] = some x) : ∃ rs, RuleSl w v rs ∧ rs.length ≤ maxLen ∧ ∀ i, i < rs.length → RuleFit (rs.getD i RuleD.none) := by
  rcases open_slice Tryd.underlying33 h with ⟨hcs, _⟩ | ⟨a, len, cap, m, n, D, Pl, hcs, _, hl, hm, hmm, _, hel⟩
  · cases hcs
    exact ⟨[], ⟨none, 0, rfl, Nat.le_refl _, fun h => absurd h (Nat.not_lt_zero _)⟩, Nat.zero_le _, fun i hi => absurd hi (Nat.not_lt_zero _)⟩
  · cases hcs
    have hle : len ≤ m := by rw [hmm]; split <;> omega
    rw [Tryd.cellsN49] at hel
    have hall : ∀ i, i < len → ∃ r : RuleD, (a.spot = none ∧ RuleAt w a.block (a.off + i * 5) r) ∧ RuleFit r := fun i hi => by
      obtain ⟨cs', h1, h2⟩ := hel i (by omega)
      obtain ⟨r, v', v'', rfl, h3, h5, h4⟩ := open_rule h2
      have hc := cells_at h1
      have ha : a.spot = none := by
        have h0 := (hel 0 (by omega))
        obtain ⟨cs0, g1, g2⟩ := h0
        obtain ⟨r0, v0, v1, rfl, _, _, _⟩ := open_rule g2
        have g3 := cells_at g1 0 _ rfl
        have g4 : w.cell? a = some (.string r0.ac) := by simpa [Addr.add] using g3
        rw [addr_plain g4]
      have c0 := hc 0 _ rfl
      have c1 := hc 1 _ rfl
      have c2 := hc 2 _ rfl
      have c3 := hc 3 _ rfl
      have c4 := hc 4 _ rfl
      rw [add_add a _ _ ha] at c0 c1 c2 c3 c4
      exact ⟨r, ⟨ha, c0, c1, ⟨v', c2, h3⟩, c3, v'', c4, h5⟩, h4⟩
    obtain ⟨rs, hrl, hrs⟩ := list_of RuleD.none (fun i r => (a.spot = none ∧ RuleAt w a.block (a.off + i * 5) r) ∧ RuleFit r) len hall
    refine ⟨rs, ⟨some a, cap, by rw [hrl], by rw [hrl]; exact hl, fun h0 => ⟨a.block, a.off, ?_, fun i hi => (hrs i (by omega)).1.2⟩⟩, by omega, fun i hi => (hrs i (by omega)).2⟩
    have ha := (hrs 0 (by omega)).1.1
    obtain ⟨b, f, sp⟩ := a
    cases ha
    rfl
end
end Go.Proofs.Qxb6601693aDoor
