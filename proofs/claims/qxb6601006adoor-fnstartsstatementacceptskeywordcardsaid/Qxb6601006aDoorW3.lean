import Derived.Test.Qxb6601006aDoorP1
import Derived.Deep.Light
import Derived.Lib.Strings
namespace Go.Proofs.Qxb6601006aDoor
open Go.RowKit

set_option maxHeartbeats 1000000 in
theorem model_any (s : ByteArray) (w : World) (hs : s.size ≤ 1048576) :
    Calls Tryd.prog 8 #[.string s] w fun e w' => e = .returned (.bool (modelF s.data.toList)) ∧ ∃ n, w' = w.drewN n := by
  go_enter Tryd.func8, Tryd.ntmps8
  go_wp2
  go_loop [3, 4, 5, 6, 7, 8, 9] (fun a3 a4 a5 a6 a7 a8 a9 => ∃ k : Nat, k ≤ s.size ∧ a9 = .int .i64 k ∧ a3 = .int .i64 (lastTo s.data.toList k) ∧ a4 = .bool (ldTo s.data.toList k) ∧ a5 = .int .i64 (lrTo s.data.toList k) ∧ a6 = .int .i64 (lsTo s.data.toList k) ∧ a7 = .bool (dashTo s.data.toList k) ∧ a8 = .int .i64 (runTo s.data.toList k)) (fun _ _ _ _ _ _ i => s.size - (intOf i).toNat)
  case atStart => exact ⟨0, Nat.zero_le _, rfl, rfl, rfl, rfl, rfl, rfl, rfl⟩
  case round =>
    obtain ⟨k, hk, rfl, rfl, rfl, rfl, rfl, rfl, rfl⟩ := hrel
    have b1 := lsTo_le s.data.toList k
    have b2 := runTo_le s.data.toList k
    have b3 := lrTo_le s.data.toList k
    have b4 := lastTo_lt s.data.toList k
    by_cases hlt : k < s.size
    · have HA : Hid (at0 s.data.toList k = (s[k].toNat : Int)) := at0_of s k hlt
      have HB : Hid (at0 s.data.toList (k - 1) = (s[k - 1].toNat : Int)) := at0_of s (k - 1) (by omega)
      go_wp2_with (first | (go_at_call 12; refine (word_any _ _).mono ?_; rintro e w' ⟨rfl, rfl⟩) | (go_at_call 10; refine (space_any _ _).mono ?_; rintro e w' ⟨rfl, rfl⟩))
      all_goals
        go_round
        case rel =>
          go_light
          have HA' := HA.out
          have HB' := HB.out
          clear HA HB
          refine ⟨k + 1, by omega, by go_num, ?_, ?_, ?_, ?_, ?_, ?_⟩
          all_goals
            simp only [lastTo, ldTo, lrTo, lsTo, dashTo, runTo, HA', HB']
            simp_all
            try omega
        case measure => simp [intOf]; omega
    · obtain rfl : k = s.size := by omega
      have b5 := lrTo_last s.data.toList s.size
      have HL : Hid (s.data.toList.length = s.size) := len_size s
      by_cases hneg : lastTo s.data.toList s.size < 0
      · go_wp2
        go_ret
        exact ⟨ret_bool (modelF_neg _ (by rw [HL.out]; exact hneg)).symm, 0, rfl⟩
      · obtain ⟨m, hm⟩ := Int.eq_ofNat_of_zero_le (show 0 ≤ lastTo s.data.toList s.size by omega)
        have HC : Hid _ := modelF_pos s.data.toList m (by rw [HL.out]; exact hm)
        rw [hm] at b4 b5 ⊢
        have b6 : m < s.size := by omega
        have b7 : lrTo s.data.toList s.size ≤ m + 1 := by omega
        have HA : Hid (at0 s.data.toList m = (s[m].toNat : Int)) := at0_of s m b6
        have HB : Hid (at0 s.data.toList (m - 1) = ((s[m - 1]'(Nat.lt_of_le_of_lt (Nat.sub_le _ _) b6)).toNat : Int)) := at0_of s (m - 1) (Nat.lt_of_le_of_lt (Nat.sub_le _ _) b6)
        clear hm hneg b4 b5 b1 b2 b3
        have hsz : (s.extract (lrTo s.data.toList s.size) (m + 1)).size ≤ maxLen := by
          rw [← len_size, Lib.extract_data]
          unfold maxLen
          have := List.length_take_le (m + 1 - lrTo s.data.toList s.size) (List.drop (lrTo s.data.toList s.size) s.data.toList)
          omega
        go_wp2_with (first | (go_at_call 12; refine (word_any _ _).mono ?_; rintro e w' ⟨rfl, rfl⟩) | (go_at_call 16; refine (isKw_any _ _ hsz).mono ?_; rintro e w' ⟨rfl, n, rfl⟩))
        all_goals
          go_ret
          refine ⟨ret_bool ?_, by first | exact ⟨0, rfl⟩ | exact ⟨_, rfl⟩⟩
          rw [HC.out, HL.out, HA.out, HB.out]
          simp [*]
          try rfl

end Go.Proofs.Qxb6601006aDoor
