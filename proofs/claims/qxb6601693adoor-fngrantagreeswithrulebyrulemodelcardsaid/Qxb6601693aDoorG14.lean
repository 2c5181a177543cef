import Derived.Test.Qxb6601693aDoorG12
import Derived.Deep.RegionHeld3
namespace Go.Proofs.Qxb6601693aDoor
open Go.RowKit

theorem below_trans {w wr w' : World} (h : Below w.heap.size w wr) (h2 : Below wr.heap.size wr w') : Below w.heap.size w w' := below_aft h h.size h2
/-- a copy of a rule, its two slices in blocks from N on -/
def RuleNew (N : Nat) (w' : World) (r : RuleD) (v : Value) : Prop :=
  ∃ v1 v2, v = .agg #[.string r.ac, .string r.ty, v1, .bool r.us, v2] ∧ On (fun g => N ≤ g ∧ g < w'.heap.size) (fun w => StrAt w v1 r.lits) w' ∧ On (fun g => N ≤ g ∧ g < w'.heap.size) (fun w => StrAt w v2 r.acts) w'

theorem block5 {w : World} {B : Nat} {v0 v1 v2 v3 v4 : Value} {t : Nat} (h : w.heap[B]? = some (.cells #[v0, v1, v2, v3, v4] t)) :
    (w.cell? ⟨B, 0, none⟩ = some v0 ∧ w.cell? ⟨B, 1, none⟩ = some v1 ∧ w.cell? ⟨B, 2, none⟩ = some v2 ∧ w.cell? ⟨B, 3, none⟩ = some v3 ∧ w.cell? ⟨B, 4, none⟩ = some v4) ∧ ∀ i, w.frozen? ⟨B, i, none⟩ = false := by
  refine ⟨⟨?_, ?_, ?_, ?_, ?_⟩, fun i => Joins.unfrozen_of_block h i⟩
  all_goals rw [Joins.cell_of_block h]; rfl
theorem keep5 {w w' : World} {B : Nat} {v0 v1 v2 v3 v4 : Value} (hb : Below w.heap.size w w') (h : w.cell? ⟨B, 0, none⟩ = some v0 ∧ w.cell? ⟨B, 1, none⟩ = some v1 ∧ w.cell? ⟨B, 2, none⟩ = some v2 ∧ w.cell? ⟨B, 3, none⟩ = some v3 ∧ w.cell? ⟨B, 4, none⟩ = some v4) :
    w'.cell? ⟨B, 0, none⟩ = some v0 ∧ w'.cell? ⟨B, 1, none⟩ = some v1 ∧ w'.cell? ⟨B, 2, none⟩ = some v2 ∧ w'.cell? ⟨B, 3, none⟩ = some v3 ∧ w'.cell? ⟨B, 4, none⟩ = some v4 := by
  obtain ⟨h0, h1, h2, h3, h4⟩ := h
  have e := hb.block B (World.block_lt_of_cell? _ _ h0)
  exact ⟨cell_blocks h0 e, cell_blocks h1 e, cell_blocks h2 e, cell_blocks h3 e, cell_blocks h4 e⟩
theorem set5_block {w : World} {B t : Nat} {x0 x1 x2 x3 x4 : Value} (h : w.heap[B]? = some (.cells #[x0, x1, x2, x3, x4] t)) (v0 v1 v2 v3 v4 : Value) : (set5 w B 0 v0 v1 v2 v3 v4).heap[B]? = some (.cells #[v0, v1, v2, v3, v4] t) := by
  have h0 : (w.setCell ⟨B, 0, none⟩ v0).heap[B]? = some (.cells #[v0, x1, x2, x3, x4] t) := Joins.block_setCell h _
  have h1 : ((w.setCell ⟨B, 0, none⟩ v0).setCell ⟨B, 1, none⟩ v1).heap[B]? = some (.cells #[v0, v1, x2, x3, x4] t) := Joins.block_setCell h0 _
  have h2 : (((w.setCell ⟨B, 0, none⟩ v0).setCell ⟨B, 1, none⟩ v1).setCell ⟨B, 2, none⟩ v2).heap[B]? = some (.cells #[v0, v1, v2, x3, x4] t) := Joins.block_setCell h1 _
  have h3 : ((((w.setCell ⟨B, 0, none⟩ v0).setCell ⟨B, 1, none⟩ v1).setCell ⟨B, 2, none⟩ v2).setCell ⟨B, 3, none⟩ v3).heap[B]? = some (.cells #[v0, v1, v2, v3, x4] t) := Joins.block_setCell h2 _
  have h4 : (((((w.setCell ⟨B, 0, none⟩ v0).setCell ⟨B, 1, none⟩ v1).setCell ⟨B, 2, none⟩ v2).setCell ⟨B, 3, none⟩ v3).setCell ⟨B, 4, none⟩ v4).heap[B]? = some (.cells #[v0, v1, v2, v3, v4] t) := Joins.block_setCell h3 _
  exact h4
theorem Tryd.size49 : (Tryd.prog.info? 49).map (·.size) = some 5 := by kernel_rfl

theorem rule_ret {tmps : Array Value} {w w1 w2 : World} {ac ty : ByteArray} {us : Bool} {lits acts : List ByteArray} {u1 u2 : Value} {t : Nat} {x0 x1 x2 x3 x4 : Value} (hp : tmps.getD 2 undef = .pointer (some ⟨w.heap.size + 1, 0, none⟩))
    (hbw1 : Below w.heap.size w w1) (hb2 : Below w1.heap.size w1 w2) (hN : w.heap.size + 1 < w1.heap.size) (hr : w2.heap[w.heap.size + 1]? = some (.cells #[x0, x1, x2, x3, x4] t)) (N : Nat) (hN1 : w.heap.size + 1 < N)
    (hon1 : On (fun g => N ≤ g ∧ g < w1.heap.size) (fun w => StrAt w u1 lits) w1) (hon2 : On (fun g => w1.heap.size ≤ g ∧ g < w2.heap.size) (fun w => StrAt w u2 acts) w2) :
    bodyPost Tryd.prog Tryd.f34 (fun e w' => ∃ v', e = .returned v' ∧ RuleNew w.heap.size w' ⟨ac, ty, lits, us, acts⟩ v' ∧ Below w.heap.size w w') .ret ⟨tmps, []⟩ (set5 w2 (w.heap.size + 1) 0 (.string ac) (.string ty) u1 (.bool us) u2) := by
  refine bodyPost_ret (v := .agg #[.string ac, .string ty, u1, .bool us, u2]) (results_cell_row Tryd.results34 tmps _ (w.heap.size + 1) _ _ _ _ hp (set5_block hr _ _ _ _ _) Tryd.underlying49 rfl Tryd.size49) rfl ⟨_, rfl, ⟨u1, u2, rfl, ?_, ?_⟩, set5_below (below_trans hbw1 hb2) (by omega) _ _ _ _ _ _⟩
  · refine (hon1.move (w' := set5 w2 (w.heap.size + 1) 0 (.string ac) (.string ty) u1 (.bool us) u2) fun g hg => ?_).mono fun g hg => ⟨by omega, by rw [set5_size]; exact Nat.lt_of_lt_of_le hg.2 hb2.size⟩
    rw [set5_heap (by omega), hb2.block g hg.2]
  · refine (hon2.move (w' := set5 w2 (w.heap.size + 1) 0 (.string ac) (.string ty) u1 (.bool us) u2) fun g hg => ?_).mono fun g hg => ⟨by have := hbw1.size; omega, by rw [set5_size]; exact hg.2⟩
    rw [set5_heap (by omega)]

set_option maxHeartbeats 4000000 in
set_option maxRecDepth 100000 in
/-- zzCloneRule -/
theorem cloneRule_any (ac ty : ByteArray) (v1 v2 : Value) (us : Bool) (lits acts : List ByteArray) (w : World) (h1 : StrAt w v1 lits) (h2 : StrAt w v2 acts) (hl1 : lits.length ≤ 1048576) (hl2 : acts.length ≤ 1048576) :
    Calls Tryd.prog 34 #[.agg #[.string ac, .string ty, v1, .bool us, v2]] w fun e w' => ∃ v', e = .returned v' ∧ RuleNew w.heap.size w' ⟨ac, ty, lits, us, acts⟩ v' ∧ Below w.heap.size w w' := by
  have HS1 : Hid (StrAt w v1 lits) := h1
  have HS2 : Hid (StrAt w v2 acts) := h2
  have HL1 : Hid (lits.length ≤ 1048576) := hl1
  have HL2 : Hid (acts.length ≤ 1048576) := hl2
  clear h1 h2 hl1 hl2
  have HR0 : Hid (((w.alloc (.cells #[.string ac, .string ty, v1, .bool us, v2] 49)).alloc (.cells #[.string ⟨#[]⟩, .string ⟨#[]⟩, .slice none 0 0, .bool false, .slice none 0 0] 49)).heap[w.heap.size + 1]? = some (.cells #[.string ⟨#[]⟩, .string ⟨#[]⟩, .slice none 0 0, .bool false, .slice none 0 0] 49)) := heap2' w _ _
  have HB0 : Hid (Below w.heap.size w ((w.alloc (.cells #[.string ac, .string ty, v1, .bool us, v2] 49)).alloc (.cells #[.string ⟨#[]⟩, .string ⟨#[]⟩, .slice none 0 0, .bool false, .slice none 0 0] 49)).drew) := (below2 w _ _).drew
  go_enter Tryd.func34, Tryd.ntmps34
  go_wp2
  go_region_held3 (fun w' => w'.cell? ⟨w.heap.size, 0, none⟩ = some (.string ac) ∧ w'.cell? ⟨w.heap.size, 1, none⟩ = some (.string ty) ∧ w'.cell? ⟨w.heap.size, 2, none⟩ = some v1 ∧ w'.cell? ⟨w.heap.size, 3, none⟩ = some (.bool us) ∧ w'.cell? ⟨w.heap.size, 4, none⟩ = some v2) (first | with_reducible exact hS2 | with_reducible exact hS1 | go_keep)
    (first
      | (go_at_call_of 10 v1; refine (clone_wide _ lits _ (HS1.out.below HB0.out) HL1.out).mono ?_; rintro e w1 ⟨u1, rfl, hon1, hb1⟩; have hS1 := keep5 hb1 (by assumption); have HBW1 : Hid (Below w.heap.size w w1) := below_trans HB0.out hb1; have HR1 : Hid (w1.heap[w.heap.size + 1]? = some (.cells #[.string ⟨#[]⟩, .string ⟨#[]⟩, .slice none 0 0, .bool false, .slice none 0 0] 49)) := (hb1.block (w.heap.size + 1) (Row.lt ⟨_, _, HR0.out, rfl⟩)).trans HR0.out; have HON1 : Hid _ := hon1; have hf1 := hon1.out.form; obtain ⟨o1, n1, c1, rfl⟩ := hf1; clear hon1 hb1)
      | (go_at_call_of 10 v2; refine (clone_wide _ acts _ (HS2.out.below HBW1.out) HL2.out).mono ?_; rintro e w2 ⟨u2, rfl, hon2, hb2⟩; have hS2 := keep5 hb2 (by assumption); have hr2 := (hb2.block (w.heap.size + 1) (Row.lt ⟨_, _, HR1.out, rfl⟩)).trans HR1.out; have HON2 : Hid _ := hon2; have HB2 : Hid _ := hb2; obtain ⟨⟨q0, q1, q2, q3, q4⟩, q5⟩ := block5 hr2; have HR2 : Hid _ := hr2; have hf2 := hon2.out.form; obtain ⟨o2, n2, c2, rfl⟩ := hf2; clear hr2 hon2 hb2))
  go_wp2
  exact rule_ret rfl HBW1.out HB2.out (Row.lt ⟨_, _, HR1.out, rfl⟩) HR2.out _ (by simp) HON1.out HON2.out
end Go.Proofs.Qxb6601693aDoor
