import Derived.Test.Qxb6601006aDoorW5
import Derived.Test.Qxb6601006aDoorW3
namespace Go.Proofs.Qxb6601006aDoor
open Go.RowKit

/-- the bound on the length -/
theorem bytes_any (s : ByteArray) (w : World) (hs : s.size ≤ maxLen) :
    Calls Tryd.prog 6 #[.string s] w fun e w' => e = .returned (.bool (decide (s.size ≤ 1048576))) ∧ w' = w := by
  unfold maxLen at hs
  by_cases h : s.size ≤ 1048576
  · go_enter Tryd.func6, Tryd.ntmps6
    go_wp2
    go_ret
    exact ⟨ret_bool (by simp [h]), rfl⟩
  · go_enter Tryd.func6, Tryd.ntmps6
    go_wp2
    go_ret
    exact ⟨ret_bool (by simp [h]), rfl⟩

theorem zz_any (s : ByteArray) (w : World) (hs : s.size ≤ 4194304) (hsh : w.ShapedOpen Tryd.prog) :
    Calls Tryd.prog 7 #[.string s] w fun e w' => e = .returned (.bool (modelF s.data.toList)) ∧ Below w.heap.size w w' := by
  have hcon := starts_any s w hs hsh
  rw [law] at hcon
  go_enter Tryd.func7, Tryd.ntmps7
  go_wp2_with (go_at_call 15; refine hcon.mono ?_; rintro e w' ⟨rfl, hb⟩)
  go_ret
  exact ⟨rfl, hb⟩

theorem matches_any (s : ByteArray) (w : World) (hs : s.size ≤ maxLen) (hsh : w.ShapedOpen Tryd.prog) :
    Calls Tryd.prog 3 #[.string s] w fun e w' => e = .returned (.bool true) ∧ Below w.heap.size w w' := by
  have hc := bytes_any s w hs
  by_cases h : s.size ≤ 1048576
  · rw [decide_eq_true h] at hc
    have hz := zz_any s w (by omega) hsh
    have hm := fun wx => model_any s wx h
    generalize modelF s.data.toList = r at hz hm
    go_enter Tryd.func3, Tryd.ntmps3
    go_wp2_with (first | (go_at_call 6; refine hc.mono ?_; rintro e w' ⟨rfl, rfl⟩) | (go_at_call 7; refine hz.mono ?_; rintro e w1 ⟨rfl, hb⟩) | (go_at_call 8; refine (hm _).mono ?_; rintro e w2 ⟨rfl, n, rfl⟩))
    go_ret
    exact ⟨ret_bool (by simp), below_drewN hb n⟩
  · rw [decide_eq_false h] at hc
    go_enter Tryd.func3, Tryd.ntmps3
    go_wp2_with (go_at_call 6; refine hc.mono ?_; rintro e w' ⟨rfl, rfl⟩)
    go_ret
    exact ⟨rfl, Below.refl _ _⟩

end Go.Proofs.Qxb6601006aDoor
