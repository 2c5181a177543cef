import Derived.Test.Qxb6601693aDoorG8
namespace Go.Proofs.Qxb6601693aDoor
open Go.RowKit

set_option maxHeartbeats 1000000 in
theorem gfits_any (v0 v2 : Value) (rules : List RuleD) (acct : ByteArray) (asked : List ResD) (w : World) (h0 : RuleSl w v0 rules) (h2 : ResSl w v2 asked) (hok : AllOk rules acct asked) :
    Calls Tryd.prog 18 #[v0, .string acct, v2] w (BoolBelow w) := by
  have hst := stats_any v0 v2 rules acct asked w h0 h2 hok
  clear h0 h2 hok
  go_enter Tryd.func18, Tryd.ntmps18
  go_wp2_with (first
    | (go_at_call 43; refine hst.mono ?_; rintro e w1 ⟨v, b, rfl, ⟨y0, y1, y2, y3, y4, y5, y6, y7, rfl⟩, hb1⟩; cases b)
    | (go_at_call 44; refine (cost_any _ _ _ _ _ _ _ _ _).mono ?_; rintro e w2 ⟨b2, rfl, hb2⟩))
  · go_ret
    exact ⟨_, rfl, hb1.alloc hb1.size _⟩
  · go_ret
    exact ⟨_, rfl, below_aft (hb1.alloc hb1.size _) (by have := hb1.size; simp only [World.size_alloc]; omega) hb2⟩
end Go.Proofs.Qxb6601693aDoor
