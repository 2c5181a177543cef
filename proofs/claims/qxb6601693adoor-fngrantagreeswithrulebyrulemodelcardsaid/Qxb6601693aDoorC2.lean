import Derived.Test.Qxb6601693aDoorC1
namespace Go.Proofs.Qxb6601693aDoor
open Go.RowKit

abbrev ru (rules : List RuleD) (i : Nat) : RuleD := rules.getD i RuleD.none
/-- zzAllowed, over what applies holds -/
def allowN (rules : List RuleD) (f : Nat → Bool) (a : ByteArray) (n : Nat) : Bool := (List.range n).any fun k => f k && (hasB (ru rules k).acts a || hasB (ru rules k).acts starB)
theorem allowN_hit {rules : List RuleD} {f : Nat → Bool} {a : ByteArray} {n k : Nat} (hk : k < n) (h : (f k && (hasB (ru rules k).acts a || hasB (ru rules k).acts starB)) = true) : allowN rules f a n = true := by
  unfold allowN
  exact List.any_eq_true.2 ⟨k, List.mem_range.2 hk, h⟩
theorem allowN_miss {rules : List RuleD} {f : Nat → Bool} {a : ByteArray} {n : Nat} (h : ∀ k, k < n → (f k && (hasB (ru rules k).acts a || hasB (ru rules k).acts starB)) = false) : allowN rules f a n = false := by
  unfold allowN
  rw [List.any_eq_false]
  intro k hk
  rw [h k (List.mem_range.1 hk)]
  exact Bool.false_ne_true

set_option maxHeartbeats 2000000 in
set_option maxRecDepth 100000 in
theorem allowed_any (v : Value) (rules : List RuleD) (B c : Nat) (f : Nat → Bool) (a : ByteArray) (w : World) (h : RuleSl w v rules) (hb : ∀ k, k < rules.length → w.cell? ⟨B, k, none⟩ = some (.bool (f k))) (hl : rules.length ≤ 1048576) (hok : ∀ i, i < rules.length → RuleOk (ru rules i)) :
    Calls Tryd.prog 27 #[v, .slice (some ⟨B, 0, none⟩) rules.length c, .string a] w fun e w' => e = .returned (.bool (allowN rules f a rules.length)) ∧ w' = w := by
  obtain ⟨o, c0, rfl, h1, h2⟩ := h
  have HK : Hid (0 < rules.length → ∃ b f, o = some ⟨b, f, none⟩ ∧ ∀ i, i < rules.length → RuleAt w b (f + i * 5) (rules.getD i RuleD.none)) := h2
  have HB : Hid (∀ k, k < rules.length → w.cell? ⟨B, k, none⟩ = some (.bool (f k))) := hb
  have HOK : Hid (∀ i, i < rules.length → RuleOk (ru rules i)) := hok
  clear h2 hb hok
  obtain ⟨n, HN⟩ : ∃ n, Hid (rules.length = n) := ⟨_, rfl⟩
  rw [HN.out] at HK HB HOK h1 hl ⊢
  go_enter Tryd.func27, Tryd.ntmps27
  go_wp2
  go_loop [7] (fun i => ∃ k : Nat, k ≤ n ∧ i = .int .i64 k ∧ ∀ j, j < k → (f j && (hasB (ru rules j).acts a || hasB (ru rules j).acts starB)) = false) (fun i => n - (intOf i).toNat)
  case atStart => exact ⟨0, Nat.zero_le _, rfl, fun j hj => absurd hj (Nat.not_lt_zero _)⟩
  case round =>
    obtain ⟨k, hk, rfl, hno⟩ := hrel
    have HNO : Hid (∀ j, j < k → (f j && (hasB (ru rules j).acts a || hasB (ru rules j).acts starB)) = false) := hno
    clear hno
    by_cases hlt : k < n
    · obtain ⟨b, g, rfl, hc⟩ := HK.out (by omega)
      obtain ⟨e0, e1, ⟨v1, e2, hs1⟩, e3, v3, e4, hs3⟩ := hc k hlt
      have hcb := HB.out k hlt
      have hra := (HOK.out k hlt).2.2.2.1
      have hcon1 := has_any v3 (ru rules k).acts a w hs3 hra
      have hcon2 := has_any v3 (ru rules k).acts starB w hs3 hra
      have hcon2' : Calls Tryd.prog 36 #[v3, .string ⟨#[42]⟩] w fun e w' => e = .returned (.bool (hasB (ru rules k).acts starB)) ∧ w' = w := hcon2
      obtain ⟨p, HP⟩ : ∃ p, Hid (f k = p) := ⟨_, rfl⟩
      obtain ⟨q1, HQ1⟩ : ∃ p, Hid (hasB (ru rules k).acts a = p) := ⟨_, rfl⟩
      obtain ⟨q2, HQ2⟩ : ∃ p, Hid (hasB (ru rules k).acts starB = p) := ⟨_, rfl⟩
      have HALL : Hid ((f k && (hasB (ru rules k).acts a || hasB (ru rules k).acts starB)) = (p && (q1 || q2))) := by show _ = _; rw [HP.out, HQ1.out, HQ2.out]
      have HHIT : Hid ((p && (q1 || q2)) = true → allowN rules f a n = true) := fun e => allowN_hit hlt (HALL.out.trans e)
      have HSTEP : Hid ((p && (q1 || q2)) = false → ∀ j, j < k + 1 → (f j && (hasB (ru rules j).acts a || hasB (ru rules j).acts starB)) = false) := fun e j hj => by
        by_cases ej : j = k
        · rw [ej]; exact HALL.out.trans e
        · exact HNO.out j (by omega)
      rw [HP.out] at hcb
      rw [HQ1.out] at hcon1
      rw [HQ2.out] at hcon2'
      clear hc hcon2 e0 e1 e2 e3 hs1 hs3 hra HALL
      cases p
      · go_wp2
        go_round
        case rel => exact ⟨k + 1, by omega, by go_num, HSTEP.out rfl⟩
        case measure => simp [intOf]; omega
      · cases q1
        · cases q2
          · go_wp2_with (first | (go_at_call_of 36 a; refine hcon1.mono ?_; rintro e w' ⟨rfl, rfl⟩) | (go_at_call 36; refine hcon2'.mono ?_; rintro e w' ⟨rfl, rfl⟩))
            go_round
            case rel => exact ⟨k + 1, by omega, by go_num, HSTEP.out rfl⟩
            case measure => simp [intOf]; omega
          · go_wp2_with (first | (go_at_call_of 36 a; refine hcon1.mono ?_; rintro e w' ⟨rfl, rfl⟩) | (go_at_call 36; refine hcon2'.mono ?_; rintro e w' ⟨rfl, rfl⟩))
            go_ret
            exact ⟨ret_bool (HHIT.out rfl).symm, rfl⟩
        · go_wp2_with (first | (go_at_call_of 36 a; refine hcon1.mono ?_; rintro e w' ⟨rfl, rfl⟩))
          go_ret
          exact ⟨ret_bool (HHIT.out rfl).symm, rfl⟩
    · obtain rfl : k = n := by omega
      go_wp2
      go_ret
      exact ⟨ret_bool (allowN_miss HNO.out).symm, rfl⟩
end Go.Proofs.Qxb6601693aDoor
