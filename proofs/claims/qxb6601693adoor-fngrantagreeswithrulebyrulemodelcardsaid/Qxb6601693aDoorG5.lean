import Derived.Test.Qxb6601693aDoorG4
namespace Go.Proofs.Qxb6601693aDoor
open Go.RowKit

set_option maxHeartbeats 8000000 in
set_option maxRecDepth 100000 in
theorem gbytes_any (v0 v2 : Value) (rules : List RuleD) (acct : ByteArray) (asked : List ResD) (w : World) (h0 : RuleSl w v0 rules) (h2 : ResSl w v2 asked) (ha : acct.size ≤ maxLen) (hl0 : rules.length ≤ maxLen) (hl2 : asked.length ≤ maxLen)
    (hf0 : ∀ i, i < rules.length → RuleFit (rules.getD i RuleD.none)) (hf2 : ∀ i, i < asked.length → ResFit (asked.getD i ResD.none)) :
    Calls Tryd.prog 17 #[v0, .string acct, v2] w (Guard w (AllOk rules acct asked)) := by
  unfold maxLen at ha hl0 hl2
  obtain ⟨o0, c0, rfl, g0, k0⟩ := h0
  obtain ⟨o2, c2, rfl, g2, k2⟩ := h2
  have HK0 : Hid (0 < rules.length → ∃ b f, o0 = some ⟨b, f, none⟩ ∧ ∀ i, i < rules.length → RuleAt w b (f + i * 5) (rules.getD i RuleD.none)) := k0
  have HK2 : Hid (0 < asked.length → ∃ b f, o2 = some ⟨b, f, none⟩ ∧ ∀ i, i < asked.length → ResAt w b (f + i * 4) (asked.getD i ResD.none)) := k2
  have HF0 : Hid (∀ i, i < rules.length → RuleFit (rules.getD i RuleD.none)) := hf0
  have HF2 : Hid (∀ i, i < asked.length → ResFit (asked.getD i ResD.none)) := hf2
  clear k0 k2 hf0 hf2
  obtain ⟨n0, HN0⟩ : ∃ n, Hid (rules.length = n) := ⟨_, rfl⟩
  obtain ⟨n2, HN2⟩ : ∃ n, Hid (asked.length = n) := ⟨_, rfl⟩
  rw [HN0.out] at g0 HK0 HF0 hl0 ⊢
  rw [HN2.out] at g2 HK2 HF2 hl2 ⊢
  go_enter Tryd.func17, Tryd.ntmps17
  go_wp2
  all_goals (try (go_ret; exact ⟨_, rfl, (fun h => nomatch h), rfl⟩))
  go_loop [7, 8] (fun x i => ∃ z k : Nat, z ≤ 1048576 ∧ k ≤ n0 ∧ x = .int .i64 z ∧ i = .int .i64 k ∧ ∀ j, j < k → RuleOk (rules.getD j RuleD.none)) (fun _ i => n0 - (intOf i).toNat)
  case atStart => exact ⟨n0, 0, by omega, Nat.zero_le _, rfl, rfl, fun j h => absurd h (Nat.not_lt_zero _)⟩
  case round =>
    obtain ⟨z, k, hz, hk, rfl, rfl, hall⟩ := hrel
    have HALL : Hid (∀ j, j < k → RuleOk (rules.getD j RuleD.none)) := hall
    clear hall
    by_cases hlt : k < n0
    · obtain ⟨b, f, rfl, hc⟩ := HK0.out (by omega)
      obtain ⟨e0, e1, ⟨v1, e2, hs1⟩, e3, ⟨v3, e4, hs3⟩⟩ := hc k hlt
      obtain ⟨q0, q1, ⟨q2, q2'⟩, ⟨q4, q4'⟩⟩ := HF0.out k hlt
      obtain ⟨r, HR⟩ : ∃ r, Hid (rules.getD k RuleD.none = r) := ⟨_, rfl⟩
      rw [HR.out] at e0 e1 e3 hs1 hs3 q0 q1 q2 q2' q4 q4'
      obtain ⟨rac, rty, rlits, rus, racts⟩ := r
      obtain ⟨o1, c1, rfl, H1⟩ := hs1.open
      obtain ⟨o3, c3, rfl, H3⟩ := hs3.open
      clear hc hs1 hs3
      simp only [] at e0 e1 e2 e3 e4 q0 q1 q2 q4 H1 H3
      have HQ2 : Hid (∀ i, i < rlits.length → (rlits.getD i ByteArray.empty).size ≤ maxLen) := q2'
      have HQ4 : Hid (∀ i, i < racts.length → (racts.getD i ByteArray.empty).size ≤ maxLen) := q4'
      clear q2' q4'
      unfold maxLen at q0 q1 q2 q4 HQ2 HQ4
      obtain ⟨n1, HN1⟩ : ∃ n, Hid (rlits.length = n) := ⟨_, rfl⟩
      obtain ⟨n3, HN3⟩ : ∃ n, Hid (racts.length = n) := ⟨_, rfl⟩
      rw [HN1.out] at e2 H1 HQ2 q2
      rw [HN3.out] at e4 H3 HQ4 q4
      go_wp2
      all_goals (try (go_ret; exact ⟨_, rfl, (fun h => nomatch h), rfl⟩))
      go_loop [7, 9] (fun x i => ∃ z j : Nat, z ≤ 1048576 ∧ j ≤ n1 ∧ x = .int .i64 z ∧ i = .int .i64 j ∧ ∀ m, m < j → (rlits.getD m ByteArray.empty).size ≤ 1048576) (fun _ i => n1 - (intOf i).toNat)
      case atStart => exact ⟨z + rac.size + rty.size + n1, 0, by omega, Nat.zero_le _, by go_num, rfl, fun j h => absurd h (Nat.not_lt_zero _)⟩
      case round =>
        obtain ⟨z, j, hz, hj, rfl, rfl, hall⟩ := hrel
        have HL1 : Hid (∀ m, m < j → (rlits.getD m ByteArray.empty).size ≤ 1048576) := hall
        clear hall
        by_cases hlj : j < n1
        · obtain ⟨b1, f1, rfl, hc1⟩ := H1.out j hlj
          have hy := HQ2.out j hlj
          obtain ⟨y, HY⟩ : ∃ y, Hid (rlits.getD j ByteArray.empty = y) := ⟨_, rfl⟩
          rw [HY.out] at hc1 hy
          go_wp2
          all_goals (try (go_ret; exact ⟨_, rfl, (fun h => nomatch h), rfl⟩))
          go_round
          case rel =>
            refine ⟨z + y.size, j + 1, by omega, by omega, by go_num, by go_num, fun m hm => ?_⟩
            by_cases e : m = j
            · rw [e, HY.out]; omega
            · exact HL1.out m (by omega)
          case measure => simp [intOf]; omega
        · obtain rfl : j = n1 := by omega
          go_wp2
          all_goals (try (go_ret; exact ⟨_, rfl, (fun h => nomatch h), rfl⟩))
          go_loop [7, 10] (fun x i => ∃ z t : Nat, z ≤ 1048576 ∧ t ≤ n3 ∧ x = .int .i64 z ∧ i = .int .i64 t ∧ ∀ m, m < t → (racts.getD m ByteArray.empty).size ≤ 1048576) (fun _ i => n3 - (intOf i).toNat)
          case atStart => exact ⟨z + n3, 0, by omega, Nat.zero_le _, by go_num, rfl, fun j h => absurd h (Nat.not_lt_zero _)⟩
          case round =>
            obtain ⟨z, t, hz, ht, rfl, rfl, hall⟩ := hrel
            have HL3 : Hid (∀ m, m < t → (racts.getD m ByteArray.empty).size ≤ 1048576) := hall
            clear hall
            by_cases hlt3 : t < n3
            · obtain ⟨b3, f3, rfl, hc3⟩ := H3.out t hlt3
              have hy := HQ4.out t hlt3
              obtain ⟨y, HY⟩ : ∃ y, Hid (racts.getD t ByteArray.empty = y) := ⟨_, rfl⟩
              rw [HY.out] at hc3 hy
              go_wp2
              all_goals (try (go_ret; exact ⟨_, rfl, (fun h => nomatch h), rfl⟩))
              go_round
              case rel =>
                refine ⟨z + y.size, t + 1, by omega, by omega, by go_num, by go_num, fun m hm => ?_⟩
                by_cases e : m = t
                · rw [e, HY.out]; omega
                · exact HL3.out m (by omega)
              case measure => simp [intOf]; omega
            · obtain rfl : t = n3 := by omega
              go_wp2
              go_round
              case rel =>
                refine ⟨z, k + 1, by omega, by omega, rfl, by go_num, fun m hm => ?_⟩
                by_cases e : m = k
                · rw [e, HR.out]
                  exact ⟨by show rac.size ≤ _; omega, by show rty.size ≤ _; omega, ⟨by show rlits.length ≤ _; rw [HN1.out]; omega, by show ∀ i, i < rlits.length → _; rw [HN1.out]; exact HL1.out⟩, ⟨by show racts.length ≤ _; rw [HN3.out]; omega, by show ∀ i, i < racts.length → _; rw [HN3.out]; exact HL3.out⟩⟩
                · exact HALL.out m (by omega)
              case measure => simp [intOf]; omega
    · obtain rfl : k = n0 := by omega
      go_wp2
      all_goals (try (go_ret; exact ⟨_, rfl, (fun h => nomatch h), rfl⟩))
      go_loop [7, 11] (fun x i => ∃ z t : Nat, z ≤ 1048576 ∧ t ≤ n2 ∧ x = .int .i64 z ∧ i = .int .i64 t ∧ ∀ j, j < t → ResOk (asked.getD j ResD.none)) (fun _ i => n2 - (intOf i).toNat)
      case atStart => exact ⟨z + acct.size + n2, 0, by omega, Nat.zero_le _, by go_num, rfl, fun j h => absurd h (Nat.not_lt_zero _)⟩
      case round =>
        obtain ⟨z, t, hz, ht, rfl, rfl, hall⟩ := hrel
        have HRES : Hid (∀ j, j < t → ResOk (asked.getD j ResD.none)) := hall
        clear hall
        by_cases hlt2 : t < n2
        · obtain ⟨b, f, rfl, hc⟩ := HK2.out (by omega)
          obtain ⟨e0, e1, e2, ⟨v3, e3, hs3⟩⟩ := hc t hlt2
          obtain ⟨q0, q1, q2, ⟨q3, q3'⟩⟩ := HF2.out t hlt2
          obtain ⟨r, HR⟩ : ∃ r, Hid (asked.getD t ResD.none = r) := ⟨_, rfl⟩
          rw [HR.out] at e0 e1 e2 hs3 q0 q1 q2 q3 q3'
          obtain ⟨rty, rcl, rna, racts⟩ := r
          obtain ⟨o3, c3, rfl, H3⟩ := hs3.open
          clear hc hs3
          simp only [] at e0 e1 e2 e3 q0 q1 q2 q3 H3
          have HQ3 : Hid (∀ i, i < racts.length → (racts.getD i ByteArray.empty).size ≤ maxLen) := q3'
          clear q3'
          unfold maxLen at q0 q1 q2 q3 HQ3
          obtain ⟨n3, HN3⟩ : ∃ n, Hid (racts.length = n) := ⟨_, rfl⟩
          rw [HN3.out] at e3 H3 HQ3 q3
          go_wp2
          all_goals (try (go_ret; exact ⟨_, rfl, (fun h => nomatch h), rfl⟩))
          go_loop [7, 12] (fun x i => ∃ z s : Nat, z ≤ 1048576 ∧ s ≤ n3 ∧ x = .int .i64 z ∧ i = .int .i64 s ∧ ∀ m, m < s → (racts.getD m ByteArray.empty).size ≤ 1048576) (fun _ i => n3 - (intOf i).toNat)
          case atStart => exact ⟨z + rty.size + rcl.size + rna.size + n3, 0, by omega, Nat.zero_le _, by go_num, rfl, fun j h => absurd h (Nat.not_lt_zero _)⟩
          case round =>
            obtain ⟨z, s, hz, hs, rfl, rfl, hall⟩ := hrel
            have HL3 : Hid (∀ m, m < s → (racts.getD m ByteArray.empty).size ≤ 1048576) := hall
            clear hall
            by_cases hlt3 : s < n3
            · obtain ⟨b3, f3, rfl, hc3⟩ := H3.out s hlt3
              have hy := HQ3.out s hlt3
              obtain ⟨y, HY⟩ : ∃ y, Hid (racts.getD s ByteArray.empty = y) := ⟨_, rfl⟩
              rw [HY.out] at hc3 hy
              go_wp2
              all_goals (try (go_ret; exact ⟨_, rfl, (fun h => nomatch h), rfl⟩))
              go_round
              case rel =>
                refine ⟨z + y.size, s + 1, by omega, by omega, by go_num, by go_num, fun m hm => ?_⟩
                by_cases e : m = s
                · rw [e, HY.out]; omega
                · exact HL3.out m (by omega)
              case measure => simp [intOf]; omega
            · obtain rfl : s = n3 := by omega
              go_wp2
              go_round
              case rel =>
                refine ⟨z, t + 1, by omega, by omega, rfl, by go_num, fun m hm => ?_⟩
                by_cases e : m = t
                · rw [e, HR.out]
                  exact ⟨by show rty.size ≤ _; omega, by show rcl.size ≤ _; omega, by show rna.size ≤ _; omega, ⟨by show racts.length ≤ _; rw [HN3.out]; omega, by show ∀ i, i < racts.length → _; rw [HN3.out]; exact HL3.out⟩⟩
                · exact HRES.out m (by omega)
              case measure => simp [intOf]; omega
        · obtain rfl : t = n2 := by omega
          go_wp2
          go_ret
          refine ⟨_, rfl, fun _ => ⟨by rw [HN0.out]; omega, by rw [HN0.out]; exact HALL.out, by omega, by rw [HN2.out]; omega, by rw [HN2.out]; exact HRES.out⟩, rfl⟩
end Go.Proofs.Qxb6601693aDoor
