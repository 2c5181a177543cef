import Derived.Test.Qxb6601856aDoorProg
import Derived.Test.Qxb6601856aDoorP1
import Derived.Test.Qxb6601856aDoorShelf
import Derived.WalkKit
import Derived.WalkSpells
import Derived.WalkLawsBesides
import Derived.KernelRfl
import Derived.Deep.OwnRows
import Derived.Deep.QuietTactic
import Derived.BigQuiet
namespace Go.Proofs.Qxb6601856aDoor
open Go.RowKit

theorem ret_bool {a b : Bool} (h : a = b) : Ending.returned (.bool a) = .returned (.bool b) := by rw [h]
theorem ret_int {k : IntKind} {a b : Int} (h : a = b) : Ending.returned (.int k a) = .returned (.int k b) := by rw [h]
def xorI (c : Int) : Int := bits .xor .u8 c 32
theorem xor_val : ∀ n : Fin 256, (if (65 ≤ n.val ∧ n.val ≤ 90) then xorI (n.val : Int) = (n.val : Int) + 32 else if (97 ≤ n.val ∧ n.val ≤ 122) then xorI (n.val : Int) = (n.val : Int) - 32 else True) := by decide +kernel
theorem fold_iff (x y : Int) (hx0 : 0 ≤ x) (hx1 : x < 256) : lowI x = lowI y ↔ x = y ∨ (((65 ≤ x ∧ x ≤ 90) ∨ (97 ≤ x ∧ x ≤ 122)) ∧ xorI x = y) := by
  have h := xor_val ⟨x.toNat, by omega⟩
  simp only [] at h
  rw [Int.toNat_of_nonneg hx0] at h
  unfold lowI
  by_cases h1 : 65 ≤ x ∧ x ≤ 90
  · rw [if_pos (by omega)] at h
    rw [if_pos h1, h]
    split <;> omega
  · rw [if_neg (by omega)] at h
    rw [if_neg h1]
    by_cases h2 : 97 ≤ x ∧ x ≤ 122
    · rw [if_pos (by omega)] at h
      rw [h]
      split <;> omega
    · split <;> omega

theorem lower_any (c : Int) (w : World) (h0 : 0 ≤ c) (h1 : c < 256) : Calls Tryd.prog 19 #[.int .u8 c] w fun e w' => e = .returned (.int .u8 (lowI c)) ∧ w' = w := by
  by_cases h : 65 ≤ c ∧ c ≤ 90
  · obtain ⟨ha, hb⟩ := h
    go_enter Tryd.func19, Tryd.ntmps19
    go_wp2
    go_ret
    exact ⟨ret_int (by unfold lowI; rw [if_pos ⟨ha, hb⟩]; omega), rfl⟩
  · have HL : Hid (lowI c = c) := by show lowI c = c; unfold lowI; rw [if_neg h]
    by_cases ha : 65 ≤ c
    · have hb : ¬ c ≤ 90 := fun hb => h ⟨ha, hb⟩
      clear h
      go_enter Tryd.func19, Tryd.ntmps19
      go_wp2
      go_ret
      exact ⟨ret_int HL.out.symm, rfl⟩
    · clear h
      go_enter Tryd.func19, Tryd.ntmps19
      go_wp2
      go_ret
      exact ⟨ret_int HL.out.symm, rfl⟩

theorem isWS_any (c : Int) (w : World) : Calls Tryd.prog 13 #[.int .u8 c] w fun e w' => e = .returned (.bool (wsI c)) ∧ w' = w := by
  go_enter Tryd.func13, Tryd.ntmps13
  go_wp2
  all_goals
    go_ret
    refine ⟨ret_bool ?_, rfl⟩
    unfold wsI
    simp_all

theorem foldB_len {b t : List UInt8} (h : b.length ≠ t.length) : foldB b t = false := by unfold foldB; simp [h]
theorem foldB_no {b t : List UInt8} {k : Nat} (hk : k < b.length) (h : ¬ lowI (at0 b k) = lowI (at0 t k)) : foldB b t = false := by
  unfold foldB
  rw [decide_eq_false_iff_not]
  rintro ⟨_, h2⟩
  exact h (h2 k hk)
theorem foldB_yes {b t : List UInt8} (h : b.length = t.length) (h2 : ∀ j, j < b.length → lowI (at0 b j) = lowI (at0 t j)) : foldB b t = true := by
  unfold foldB
  exact decide_eq_true ⟨h, h2⟩
theorem bytes_cell {w : World} {p : Option Addr} {n : Nat} {bs : List UInt8} (h : Lib.BytesAt w p n bs) {k : Nat} (hk : k < n) : ∃ b o, p = some ⟨b, o, none⟩ ∧ w.cell? ⟨b, o + k, none⟩ = some (.int .u8 (at0 bs k)) := by
  obtain ⟨b, o, h1, h2⟩ := h (by omega)
  exact ⟨b, o, h1, h2 k hk⟩

set_option maxHeartbeats 1000000 in
theorem equalFold_any (p : Option Addr) (n c : Nat) (bs : List UInt8) (s : ByteArray) (w : World) (hb : bs.length = n) (h : Lib.BytesAt w p n bs) (hn : n ≤ 1048576) (hs : s.size ≤ 1048576) :
    Calls Tryd.prog 16 #[.slice p n c, .string s] w fun e w' => e = .returned (.bool (foldB bs s.data.toList)) ∧ ∃ q, w' = w.drewN q := by
  have HB : Hid (Lib.BytesAt w p n bs) := h
  have HBL : Hid (bs.length = n) := hb
  clear h hb
  by_cases hl : n = s.size
  · subst hl
    go_enter Tryd.func16, Tryd.ntmps16
    go_wp2
    go_loopw [13] (fun i wr => ∃ (k q : Nat), k ≤ s.size ∧ i = .int .i64 k ∧ wr = w.drewN q ∧ ∀ j, j < k → lowI (at0 bs j) = lowI (at0 s.data.toList j)) (fun i _ => s.size - (intOf i).toNat)
    case atStart => exact ⟨0, 0, Nat.zero_le _, rfl, rfl, fun j h => absurd h (Nat.not_lt_zero _)⟩
    case round =>
      obtain ⟨k, q, hk, rfl, hwr, hall⟩ := hrel
      have HALL : Hid (∀ j, j < k → lowI (at0 bs j) = lowI (at0 s.data.toList j)) := hall
      have HWR : Hid (wr = w.drewN q) := hwr
      clear hall
      by_cases hlt : k < s.size
      · obtain ⟨b, o, rfl, hc⟩ := bytes_cell HB.out hlt
        replace hc : wr.cell? ⟨b, o + k, none⟩ = some (.int .u8 (at0 bs k)) := by rw [hwr]; simpa using hc
        clear hwr
        have HA : Hid (at0 s.data.toList k = (s[k].toNat : Int)) := at0_of s k hlt
        have c1 : s[k].toNat < 256 := s[k].toNat_lt
        have g0 := at0_nonneg bs k
        have g1 := at0_lt bs k
        obtain ⟨x, HX⟩ : ∃ x, Hid (at0 bs k = x) := ⟨_, rfl⟩
        rw [HX.out] at hc g0 g1
        by_cases he : lowI x = lowI (s[k].toNat : Int)
        · have he' : (lowI x != lowI (s[k].toNat : Int)) = false := by simpa using he
          go_wp2
          go_quiet (first | (go_at_call 19; exact Calls.quiet_of_same (lower_any _ _ (by omega) (by omega))))
          go_wp2
          go_roundw
          case rel =>
            refine ⟨k + 1, _, by omega, by go_num, by rw [HWR.out, World.drewN_drewN], fun j hj => ?_⟩
            by_cases e : j = k
            · rw [e, HX.out, HA.out]; exact he
            · exact HALL.out j (by omega)
          case measure => simp [intOf]; omega
        · have he' : (lowI x != lowI (s[k].toNat : Int)) = true := by simpa using he
          go_wp2
          go_quiet (first | (go_at_call 19; exact Calls.quiet_of_same (lower_any _ _ (by omega) (by omega))))
          go_wp2
          go_ret
          refine ⟨ret_bool (foldB_no (k := k) (by rw [HBL.out]; exact hlt) ?_).symm, q + nq, by rw [HWR.out, World.drewN_drewN]⟩
          rw [HX.out, HA.out]; exact he
      · obtain rfl : k = s.size := by omega
        subst hwr
        go_wp2
        go_ret
        exact ⟨ret_bool (foldB_yes (by rw [HBL.out, len_size]) (by rw [HBL.out]; exact HALL.out)).symm, q, rfl⟩
  · have hl' : ((n : Int) != (s.size : Int)) = true := by simp; omega
    go_enter Tryd.func16, Tryd.ntmps16
    go_wp2
    go_ret
    exact ⟨ret_bool (foldB_len (by rw [HBL.out, len_size]; exact hl)).symm, 0, rfl⟩
end Go.Proofs.Qxb6601856aDoor
