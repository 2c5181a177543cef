import Derived.Test.Qxb6601375aDoorW4
namespace Go.Proofs.Qxb6601375aDoor
open Go.RowKit

theorem bytes_any (s h : ByteArray) (w : World) (hs : s.size ≤ maxLen) (hh : h.size ≤ maxLen) :
    Calls Tryd.prog 5 #[.string s, .string h] w fun e w' => e = .returned (.bool (decide (s.size + h.size ≤ 1048576))) ∧ w' = w := by
  unfold maxLen at hs hh
  by_cases h1 : s.size ≤ 1048576
  · by_cases h2 : h.size ≤ 1048576
    · by_cases h3 : s.size + h.size ≤ 1048576
      · go_enter Tryd.func5, Tryd.ntmps5
        go_wp2
        go_ret
        exact ⟨ret_bool (by simp [h3]), rfl⟩
      · go_enter Tryd.func5, Tryd.ntmps5
        go_wp2
        go_ret
        exact ⟨ret_bool (by simp [h3]), rfl⟩
    · have h3 : ¬ s.size + h.size ≤ 1048576 := by omega
      go_enter Tryd.func5, Tryd.ntmps5
      go_wp2
      go_ret
      exact ⟨ret_bool (by simp [h3]), rfl⟩
  · have h3 : ¬ s.size + h.size ≤ 1048576 := by omega
    go_enter Tryd.func5, Tryd.ntmps5
    go_wp2
    go_ret
    exact ⟨ret_bool (by simp [h3]), rfl⟩

set_option maxHeartbeats 1000000 in
theorem law_any (s h : ByteArray) (w : World) (hs : s.size ≤ maxLen) (hh : h.size ≤ maxLen) :
    Calls Tryd.prog 3 #[.string s, .string h] w fun e w' => e = .returned (.bool true) ∧ Below w.heap.size w w' := by
  have hb5 := bytes_any s h w hs hh
  by_cases h1 : s.size + h.size ≤ 1048576
  · rw [decide_eq_true h1] at hb5
    have hs1 : s.size ≤ 1048576 := by omega
    have hs2 : h.size ≤ 1048576 := by omega
    go_enter Tryd.func3, Tryd.ntmps3
    go_wp2_with (first
      | (go_at_call 5; refine hb5.mono ?_; rintro e w ⟨rfl, rfl⟩)
      | (go_at_call 6; refine (section_any s h _ h1).mono ?_; rintro e w1 ⟨r1, b1, rfl, hsec1, hb1⟩)
      | (go_at_call 7; refine (model_any s h _ h1).mono ?_; rintro e w2 ⟨r2, b2, rfl, hsec2, hb2⟩; obtain ⟨hr, hbb⟩ := SecIs_unique hsec1 hsec2; subst hbb; have hrr : r1 = r2 := ByteArray.ext (Array.ext' hr); subst hrr; clear hr hsec1 hsec2))
    all_goals
      go_ret
      refine ⟨ret_bool (by simp), ?_⟩
      have := hb1.size
      exact ⟨hb2.os.trans hb1.os, hb2.tape.trans hb1.tape, hb2.output.trans hb1.output, Nat.le_trans hb1.size hb2.size, fun k hk => (hb2.block k (by omega)).trans (hb1.block k hk)⟩
  · rw [decide_eq_false h1] at hb5
    go_enter Tryd.func3, Tryd.ntmps3
    go_wp2_with (first | (go_at_call 5; refine hb5.mono ?_; rintro e w ⟨rfl, rfl⟩))
    go_ret
    exact ⟨rfl, Below.refl _ _⟩
end Go.Proofs.Qxb6601375aDoor
