import Derived.Test.Qxb6601693aDoorG2
namespace Go.Proofs.Qxb6601693aDoor
open Go.RowKit

theorem cell_in3 (w : World) (a b c : Obj) {g f : Nat} {v : Value} (h : w.cell? ⟨g, f, none⟩ = some v) : (((w.alloc a).alloc b).alloc c).cell? ⟨g, f, none⟩ = some v :=
  (World.cell?_of_block (a := ⟨g, f, none⟩) ((below3 w a b c).block g (World.block_lt_of_cell? _ _ h))).trans h

set_option maxHeartbeats 4000000 in
set_option maxRecDepth 100000 in
theorem addRule_any (a0 a1 a2 a3 a4 a5 a6 a7 : Int) (ac ty acct : ByteArray) (v1 v2 : Value) (us : Bool) (ls ss : List ByteArray) (w : World) (h1 : StrAt w v1 ls) (h2 : StrAt w v2 ss) (hls : ∀ i, i < ls.length → (ls.getD i ByteArray.empty).size ≤ 1048576) (hll : ls.length ≤ 1048576) :
    Calls Tryd.prog 50 #[.agg #[.int .i64 a0, .int .i64 a1, .int .i64 a2, .int .i64 a3, .int .i64 a4, .int .i64 a5, .int .i64 a6, .int .i64 a7], .agg #[.string ac, .string ty, v1, .bool us, v2], .string acct] w (StatsBool w) := by
  obtain ⟨o1, c1, rfl, g1, k1⟩ := h1
  obtain ⟨o2, c2, rfl, g2, k2⟩ := h2
  have HS1 : Hid (StrAt w (.slice o1 ls.length c1) ls) := ⟨o1, c1, rfl, g1, k1⟩
  have HS2 : Hid (StrAt w (.slice o2 ss.length c2) ss) := ⟨o2, c2, rfl, g2, k2⟩
  have HK1 : Hid (0 < ls.length → ∃ b f, o1 = some ⟨b, f, none⟩ ∧ ∀ i, i < ls.length → w.cell? ⟨b, f + i, none⟩ = some (.string (ls.getD i ByteArray.empty))) := k1
  have HLS : Hid (∀ i, i < ls.length → (ls.getD i ByteArray.empty).size ≤ 1048576) := hls
  clear k1 k2 hls
  obtain ⟨n1, HN1⟩ : ∃ n, Hid (ls.length = n) := ⟨_, rfl⟩
  obtain ⟨n2, HN2⟩ : ∃ n, Hid (ss.length = n) := ⟨_, rfl⟩
  rw [HN1.out] at g1 HS1 HK1 HLS hll ⊢
  rw [HN2.out] at g2 HS2 ⊢
  have hsb1 := fun t wx (hx : Below w.heap.size w wx) => strsBytes_any _ ls t wx (HS1.out.below hx)
  have hsb2 := fun t wx (hx : Below w.heap.size w wx) => strsBytes_any _ ss t wx (HS2.out.below hx)
  go_enter Tryd.func50, Tryd.ntmps50
  go_wp2_with (first
    | (go_at_call 58; refine (addLen_any _ _ _).mono ?_; rintro e w' ⟨u', b', rfl, hw'⟩; subst hw'; cases b')
    | (go_at_call_of 66 (Value.slice o1 n1 c1); refine (hsb1 _ _ (below3 w _ _ _)).mono ?_; rintro e w' ⟨u', b', rfl, hw'⟩; subst hw'; cases b')
    | (go_at_call_of 66 (Value.slice o2 n2 c2); refine (hsb2 _ _ (below3 w _ _ _)).mono ?_; rintro e w' ⟨u', b', rfl, hw'⟩; subst hw'; cases b'))
  · exact stats_ret (p := 6) (u := 7) Tryd.results50 rfl rfl (heap3 w _ _ _) (below3 w _ _ _)
  · exact stats_ret (p := 6) (u := 7) Tryd.results50 rfl rfl (heap3 w _ _ _) (below3 w _ _ _)
  · exact stats_ret (p := 6) (u := 7) Tryd.results50 rfl rfl (heap3 w _ _ _) (below3 w _ _ _)
  · exact stats_ret (p := 6) (u := 7) Tryd.results50 rfl rfl (heap3 w _ _ _) (below3 w _ _ _)
  · exact stats_ret (p := 6) (u := 7) Tryd.results50 rfl rfl (heap3 w _ _ _) (below3 w _ _ _)
  · go_loop [10, 11, 12] (fun x y i => ∃ (k : Nat) (a b : Int), k ≤ n1 ∧ i = .int .i64 k ∧ x = .int .i64 a ∧ y = .int .i64 b) (fun _ _ i => n1 - (intOf i).toNat)
    case atStart => exact ⟨0, _, _, Nat.zero_le _, rfl, rfl, rfl⟩
    case round =>
      obtain ⟨k, a, b, hk, rfl, rfl, rfl⟩ := hrel
      by_cases hlt : k < n1
      · obtain ⟨bb, f, rfl, hc⟩ := HK1.out (by omega)
        have hck := cell_in3 w (.cells #[.int .i64 a0, .int .i64 a1, .int .i64 a2, .int .i64 a3, .int .i64 a4, .int .i64 a5, .int .i64 a6, .int .i64 a7] 69) (.cells #[.string ac, .string ty, .slice (some ⟨bb, f, none⟩) n1 c1, .bool us, .slice o2 n2 c2] 49) (.cells #[.int .i64 0, .int .i64 0, .int .i64 0, .int .i64 0, .int .i64 0, .int .i64 0, .int .i64 0, .int .i64 0] 69) (hc k hlt)
        have hsk := HLS.out k hlt
        clear hc
        generalize ls.getD k ByteArray.empty = y at hck hsk
        cases us
        · go_wp2
          go_round
          case rel => exact ⟨k + 1, _, _, by omega, by go_num, rfl, rfl⟩
          case measure => simp [intOf]; omega
        · go_wp2_with (first | (go_at_call 37; refine (places_wide _ _ hsk).mono ?_; rintro e w' ⟨m, rfl, hm, hw'⟩; subst hw'))
          · exact stats_ret (p := 6) (u := 7) Tryd.results50 rfl rfl (heap3 w _ _ _) (below3 w _ _ _)
          · go_round
            case rel => exact ⟨k + 1, _, _, by omega, by go_num, rfl, rfl⟩
            case measure => simp [intOf]; omega
      · go_wp2
        exact stats_ret (p := 6) (u := 7) Tryd.results50 rfl rfl (heap3 w _ _ _) (below3 w _ _ _)
end Go.Proofs.Qxb6601693aDoor
