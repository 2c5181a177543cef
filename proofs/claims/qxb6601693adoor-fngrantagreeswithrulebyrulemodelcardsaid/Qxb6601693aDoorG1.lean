import Derived.Test.Qxb6601693aDoorW1
import Derived.Laws.ResultCell
namespace Go.Proofs.Qxb6601693aDoor
open Go.RowKit

/-- v is a slice that holds the strings ss, wherever it lies -/
def StrAt (w : World) (v : Value) (ss : List ByteArray) : Prop :=
  ∃ o c, v = .slice o ss.length c ∧ ss.length ≤ c ∧ (0 < ss.length → ∃ b f, o = some ⟨b, f, none⟩ ∧ ∀ i, i < ss.length → w.cell? ⟨b, f + i, none⟩ = some (.string (ss.getD i ByteArray.empty)))
theorem StrAt.below {w w' : World} {v : Value} {ss : List ByteArray} (h : StrAt w v ss) (hb : Below w.heap.size w w') : StrAt w' v ss := by
  obtain ⟨o, c, rfl, h1, h2⟩ := h
  refine ⟨o, c, rfl, h1, fun h0 => ?_⟩
  obtain ⟨b, f, e, hc⟩ := h2 h0
  refine ⟨b, f, e, fun i hi => ?_⟩
  exact (World.cell?_of_block (a := ⟨b, f + i, none⟩) (hb.block b (World.block_lt_of_cell? _ _ (hc i hi)))).trans (hc i hi)

/-- some number, some bool -/
def IntBool (w : World) (e : Ending) (w' : World) : Prop := ∃ (t : Int) (b : Bool), e = .returned (.tuple #[.int .i64 t, .bool b]) ∧ w' = w
theorem addLen_any (t x : Int) (w : World) : Calls Tryd.prog 58 #[.int .i64 t, .int .i64 x] w (IntBool w) := by
  go_enter Tryd.func58, Tryd.ntmps58
  go_wp2
  all_goals
    go_ret2
    exact ⟨_, _, rfl, rfl⟩

set_option maxHeartbeats 1000000 in
theorem strsBytes_any (v : Value) (ss : List ByteArray) (t : Int) (w : World) (h : StrAt w v ss) : Calls Tryd.prog 66 #[v, .int .i64 t] w (IntBool w) := by
  obtain ⟨o, c, rfl, h1, h2⟩ := h
  have HH : Hid (0 < ss.length → ∃ b f, o = some ⟨b, f, none⟩ ∧ ∀ i, i < ss.length → w.cell? ⟨b, f + i, none⟩ = some (.string (ss.getD i ByteArray.empty))) := h2
  clear h2
  obtain ⟨n, HN⟩ : ∃ n, Hid (ss.length = n) := ⟨_, rfl⟩
  rw [HN.out] at HH h1 ⊢
  by_cases hn : n ≤ 65536
  · go_enter Tryd.func66, Tryd.ntmps66
    go_wp2
    · go_ret2
      exact ⟨_, _, rfl, rfl⟩
    · go_loop [1, 6] (fun x i => ∃ (k : Nat) (u : Int), k ≤ n ∧ i = .int .i64 k ∧ x = .int .i64 u) (fun _ i => n - (intOf i).toNat)
      case atStart => exact ⟨0, _, Nat.zero_le _, rfl, rfl⟩
      case round =>
        obtain ⟨k, u, hk, rfl, rfl⟩ := hrel
        by_cases hlt : k < n
        · obtain ⟨b, f, rfl, hc⟩ := HH.out (by omega)
          have hck := hc k hlt
          clear hc
          generalize ss.getD k ByteArray.empty = y at hck
          go_wp2_with (first | (go_at_call 58; refine (addLen_any _ _ _).mono ?_; rintro e w ⟨u', b', rfl, rfl⟩; cases b'))
          · go_ret2
            exact ⟨_, _, rfl, rfl⟩
          · go_round
            case rel => exact ⟨k + 1, u', by omega, by go_num, rfl⟩
            case measure => simp [intOf]; omega
        · go_wp2
          go_ret2
          exact ⟨_, _, rfl, rfl⟩
  · go_enter Tryd.func66, Tryd.ntmps66
    go_wp2
    all_goals
      go_ret2
      exact ⟨_, _, rfl, rfl⟩
end Go.Proofs.Qxb6601693aDoor
