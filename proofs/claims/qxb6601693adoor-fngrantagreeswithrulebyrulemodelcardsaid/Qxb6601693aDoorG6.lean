import Derived.Test.Qxb6601693aDoorG4
namespace Go.Proofs.Qxb6601693aDoor
open Go.RowKit

def BoolBelow (w : World) (e : Ending) (w' : World) : Prop := ∃ b : Bool, e = .returned (.bool b) ∧ Below w.heap.size w w'

set_option maxHeartbeats 1000000 in
theorem cost_any (a0 a1 a2 a3 a4 a5 a6 a7 : Int) (w : World) :
    Calls Tryd.prog 44 #[.agg #[.int .i64 a0, .int .i64 a1, .int .i64 a2, .int .i64 a3, .int .i64 a4, .int .i64 a5, .int .i64 a6, .int .i64 a7]] w (BoolBelow w) := by
  go_enter Tryd.func44, Tryd.ntmps44
  go_wp2
  all_goals
    go_ret
    exact ⟨_, rfl, (Below.refl _ w).alloc (Nat.le_refl _) _⟩

/-- eight numbers in block B, which can be written -/
def Cells8 (w : World) (B : Nat) : Prop := ∃ x0 x1 x2 x3 x4 x5 x6 x7 : Int, w.heap[B]? = some (.cells #[.int .i64 x0, .int .i64 x1, .int .i64 x2, .int .i64 x3, .int .i64 x4, .int .i64 x5, .int .i64 x6, .int .i64 x7] 69)
theorem ResAt.below {w w' : World} {b f : Nat} {r : ResD} (h : ResAt w b f r) (hb : Below w.heap.size w w') : ResAt w' b f r := by
  obtain ⟨h0, h1, h2, v, h3, h4⟩ := h
  have e : w'.heap[b]? = w.heap[b]? := hb.block b (World.block_lt_of_cell? _ _ h0)
  exact ⟨(World.cell?_of_block (a := ⟨b, f, none⟩) e).trans h0, (World.cell?_of_block (a := ⟨b, f + 1, none⟩) e).trans h1, (World.cell?_of_block (a := ⟨b, f + 2, none⟩) e).trans h2, v, (World.cell?_of_block (a := ⟨b, f + 3, none⟩) e).trans h3, h4.below hb⟩
theorem RuleAt.below {w w' : World} {b f : Nat} {r : RuleD} (h : RuleAt w b f r) (hb : Below w.heap.size w w') : RuleAt w' b f r := by
  obtain ⟨h0, h1, ⟨v, h2, g2⟩, h3, v', h4, g4⟩ := h
  have e : w'.heap[b]? = w.heap[b]? := hb.block b (World.block_lt_of_cell? _ _ h0)
  exact ⟨(World.cell?_of_block (a := ⟨b, f, none⟩) e).trans h0, (World.cell?_of_block (a := ⟨b, f + 1, none⟩) e).trans h1, ⟨v, (World.cell?_of_block (a := ⟨b, f + 2, none⟩) e).trans h2, g2.below hb⟩, (World.cell?_of_block (a := ⟨b, f + 3, none⟩) e).trans h3, v', (World.cell?_of_block (a := ⟨b, f + 4, none⟩) e).trans h4, g4.below hb⟩
theorem ResSl.below {w w' : World} {v : Value} {rs : List ResD} (h : ResSl w v rs) (hb : Below w.heap.size w w') : ResSl w' v rs := by
  obtain ⟨o, c, rfl, h1, h2⟩ := h
  refine ⟨o, c, rfl, h1, fun h0 => ?_⟩
  obtain ⟨b, f, e, hc⟩ := h2 h0
  exact ⟨b, f, e, fun i hi => (hc i hi).below hb⟩
theorem RuleSl.below {w w' : World} {v : Value} {rs : List RuleD} (h : RuleSl w v rs) (hb : Below w.heap.size w w') : RuleSl w' v rs := by
  obtain ⟨o, c, rfl, h1, h2⟩ := h
  refine ⟨o, c, rfl, h1, fun h0 => ?_⟩
  obtain ⟨b, f, e, hc⟩ := h2 h0
  exact ⟨b, f, e, fun i hi => (hc i hi).below hb⟩
end Go.Proofs.Qxb6601693aDoor
