import Derived.Test.Qxb6601006aDoorW8
namespace Go.Proofs.Qxb6601006aDoor
open Go.RowKit

set_option maxHeartbeats 1000000 in
theorem accepts_any (p pad : ByteArray) (c m : Int) (w : World) (h1 : p.size ≤ maxLen) (h2 : pad.size ≤ maxLen) (c0 : 0 ≤ c) (c1 : c < 256) (m0 : 0 ≤ m) (m1 : m < 256) (hsh : w.ShapedOpen Tryd.prog) :
    Calls Tryd.prog 5 #[.string p, .int .u8 c, .int .u8 m, .string pad] w fun e w' => e = .returned (.bool true) ∧ Below w.heap.size w w' := by
  by_cases ha : p.size ≤ 524288 ∧ pad.size ≤ 524288 ∧ (p.size = 0 ∨ wordB (at0 p.data.toList (p.size - 1)) = false)
  · exact accepts_main p pad c m w ha.1 ha.2.1 c0 c1 m0 m1 hsh ha.2.2
  · have hc := bytes4_any p pad c m w h1 h2
    unfold maxLen at h1 h2
    by_cases hb : p.size + pad.size ≤ 1048576
    · rw [decide_eq_true hb] at hc
      by_cases hp : p.size ≤ 524288
      · by_cases hq : pad.size ≤ 524288
        · have hz : 0 < p.size := by omega
          have b0 : p.size - 1 < p.size := by omega
          have hw : wordB ((p[p.size - 1]'b0).toNat : Int) = true := by
            rw [← at0_of p _ b0, ← Bool.not_eq_false]
            exact fun h => ha ⟨hp, hq, .inr h⟩
          clear ha
          go_enter Tryd.func5, Tryd.ntmps5
          go_wp2_with (first | (go_at_call 11; refine hc.mono ?_; rintro e w ⟨rfl, rfl⟩) | (go_at_call 12; refine (word_any _ _).mono ?_; rintro e w ⟨rfl, rfl⟩))
          go_ret
          exact ⟨rfl, Below.refl _ _⟩
        · clear ha
          go_enter Tryd.func5, Tryd.ntmps5
          go_wp2_with (go_at_call 11; refine hc.mono ?_; rintro e w ⟨rfl, rfl⟩)
          go_ret
          exact ⟨rfl, Below.refl _ _⟩
      · clear ha
        go_enter Tryd.func5, Tryd.ntmps5
        go_wp2_with (go_at_call 11; refine hc.mono ?_; rintro e w ⟨rfl, rfl⟩)
        go_ret
        exact ⟨rfl, Below.refl _ _⟩
    · rw [decide_eq_false hb] at hc
      clear ha
      go_enter Tryd.func5, Tryd.ntmps5
      go_wp2_with (go_at_call 11; refine hc.mono ?_; rintro e w ⟨rfl, rfl⟩)
      go_ret
      exact ⟨rfl, Below.refl _ _⟩

end Go.Proofs.Qxb6601006aDoor
