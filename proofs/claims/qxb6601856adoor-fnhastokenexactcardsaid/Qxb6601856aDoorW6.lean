import Derived.Test.Qxb6601856aDoorW4
import Derived.Test.Qxb6601856aDoorW5
namespace Go.Proofs.Qxb6601856aDoor
open Go.RowKit

theorem model_nil (t : ByteArray) (w : World) : Calls Tryd.prog 9 #[.slice none 0 0, .string t] w fun e w' => e = .returned (.bool (tokL t.data.toList [])) ∧ w' = w := by
  rw [tokL_nil]
  go_enter Tryd.func9, Tryd.ntmps9
  go_wp2
  go_loop [5, 6] (fun a b => a = .int .i64 0 ∧ b = .int .i64 0) (fun _ _ => 0)
  case atStart => exact ⟨rfl, rfl⟩
  case round =>
    obtain ⟨rfl, rfl⟩ := hrel
    go_wp2
    go_ret
    exact ⟨rfl, rfl⟩
theorem own_form {w : World} {v : Value} {l : List UInt8} (h : OwnAt w v l) (hl : l.length ≤ 524288) : ∃ p, v = .slice p l.length l.length ∧ Holds w p l.length l.length l := by
  rcases h with ⟨rfl, rfl⟩ | ⟨B, rfl, hB, hc⟩
  · exact ⟨none, rfl, Holds.nil w⟩
  · refine ⟨_, rfl, rfl, Nat.le_refl _, hl, (fun e => nomatch e), fun h0 => ⟨B, 0, rfl, fun i hi => ?_⟩⟩
    rw [Nat.zero_add]
    exact hc i hi
theorem own_below {w w' : World} {v : Value} {l : List UInt8} (h : OwnAt w v l) (hb : Below w.heap.size w w') : OwnAt w' v l := by
  rcases h with h | ⟨B, rfl, hB, hc⟩
  · exact .inl h
  · have := hb.size
    exact .inr ⟨B, rfl, by omega, fun j hj => cell_below hb (a := ⟨B, j, none⟩) hB (hc j hj)⟩
theorem model_any (v : Value) (l : List UInt8) (t : ByteArray) (w : World) (h : OwnAt w v l) (hl : l.length ≤ 524288) (ht : t.size ≤ 524288) :
    Calls Tryd.prog 9 #[v, .string t] w fun e w' => e = .returned (.bool (tokL t.data.toList l)) ∧ w' = w := by
  rcases h with ⟨rfl, rfl⟩ | ⟨B, rfl, hB, hc⟩
  · exact model_nil t w
  · exact model_own B l.length l t w rfl hc hl ht

set_option maxHeartbeats 1000000 in
set_option maxRecDepth 100000 in
theorem law_any (v : Value) (l : List UInt8) (t : ByteArray) (w : World) (h : ArgAt w v l) (hl : l.length ≤ maxLen) (ht : t.size ≤ maxLen) (hsh : w.ShapedOpen Tryd.prog) :
    Calls Tryd.prog 3 #[v, .string t] w fun e w' => e = .returned (.bool true) ∧ Below w.heap.size w w' := by
  obtain ⟨p, c, rfl⟩ : ∃ p c, v = .slice p l.length c := by
    rcases h with ⟨rfl, rfl⟩ | ⟨a, c, rfl, _⟩
    · exact ⟨none, 0, rfl⟩
    · exact ⟨_, _, rfl⟩
  have hb6 := bytes_any p l.length c t w hl ht
  have hclo := clone_any _ l w h
  have HSH : Hid (w.ShapedOpen Tryd.prog) := hsh
  clear h hsh
  unfold maxLen at hl ht
  obtain ⟨n, HN⟩ : ∃ n, Hid (l.length = n) := ⟨_, rfl⟩
  rw [HN.out] at hb6 hclo hl ⊢
  by_cases h1 : n + t.size ≤ 1048576
  · rw [decide_eq_true h1] at hb6
    by_cases h2 : n ≤ 524288
    · by_cases h3 : t.size ≤ 524288
      · go_enter Tryd.func3, Tryd.ntmps3
        go_wp2_with (first
          | (go_at_call 6; refine hb6.mono ?_; rintro e w ⟨rfl, rfl⟩)
          | (go_at_call 7; refine (hclo h2).mono ?_; rintro e w1 ⟨v', rfl, hown, hb1⟩; obtain ⟨p', rfl, hh⟩ := own_form hown (by rw [HN.out]; exact h2))
          | (go_at_call 8; refine (zz_any p' _ _ l t w1 (shaped_below HSH.out hb1) hh h3).mono ?_; rintro e w2 ⟨rfl, hb2⟩)
          | (go_at_call 9; refine (model_any _ l t w2 (own_below hown hb2) (by rw [HN.out]; exact h2) h3).mono ?_; rintro e w3 ⟨rfl, hw3⟩; subst hw3))
        all_goals
          go_ret
          exact ⟨ret_bool (by simp), below_after hb1 hb1.size hb2⟩
      · go_enter Tryd.func3, Tryd.ntmps3
        go_wp2_with (first | (go_at_call 6; refine hb6.mono ?_; rintro e w ⟨rfl, rfl⟩))
        go_ret
        exact ⟨rfl, Below.refl _ _⟩
    · go_enter Tryd.func3, Tryd.ntmps3
      go_wp2_with (first | (go_at_call 6; refine hb6.mono ?_; rintro e w ⟨rfl, rfl⟩))
      go_ret
      exact ⟨rfl, Below.refl _ _⟩
  · rw [decide_eq_false h1] at hb6
    go_enter Tryd.func3, Tryd.ntmps3
    go_wp2_with (first | (go_at_call 6; refine hb6.mono ?_; rintro e w ⟨rfl, rfl⟩))
    go_ret
    exact ⟨rfl, Below.refl _ _⟩
end Go.Proofs.Qxb6601856aDoor
