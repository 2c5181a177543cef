import Derived.Test.Qxb6601006aDoorProg
import Derived.WalkKit
import Derived.WalkSpells
import Derived.WalkLawsBesides
import Derived.KernelRfl
namespace Go.Proofs.Qxb6601006aDoor
open Go.RowKit

theorem ret_bool {a b : Bool} (h : a = b) : Ending.returned (.bool a) = .returned (.bool b) := by rw [h]

/-- a word byte, of an Int -/
def wordB (c : Int) : Bool := (decide (97 ≤ c) && decide (c ≤ 122)) || (decide (65 ≤ c) && decide (c ≤ 90)) || (decide (48 ≤ c) && decide (c ≤ 57)) || c == 95 || decide (128 ≤ c)
def spaceB (c : Int) : Bool := c == 32 || c == 9 || c == 10 || c == 13 || c == 12 || c == 11

set_option maxHeartbeats 400000 in
theorem word_any (c : Int) (w : World) :
    Calls Tryd.prog 12 #[.int .u8 c] w fun e w' => e = .returned (.bool (wordB c)) ∧ w' = w := by
  go_enter Tryd.func12, Tryd.ntmps12
  go_wp2
  all_goals
    go_ret
    refine ⟨ret_bool ?_, rfl⟩
    first
    | rfl
    | (unfold wordB
       rw [Bool.eq_iff_iff]
       simp only [Bool.or_eq_true, Bool.and_eq_true, decide_eq_true_eq, beq_iff_eq, true_iff]
       omega)

theorem space_of (c : Int) : spaceB c = true ↔ (c = 32 ∨ c = 9 ∨ c = 10 ∨ c = 13 ∨ c = 12 ∨ c = 11) := by
  unfold spaceB
  simp only [Bool.or_eq_true, beq_iff_eq]
  omega

theorem word_of (c : Int) : wordB c = true ↔ ((97 ≤ c ∧ c ≤ 122) ∨ (65 ≤ c ∧ c ≤ 90) ∨ (48 ≤ c ∧ c ≤ 57) ∨ c = 95 ∨ 128 ≤ c) := by
  unfold wordB
  simp only [Bool.or_eq_true, Bool.and_eq_true, decide_eq_true_eq, beq_iff_eq]
  omega

set_option maxHeartbeats 400000 in
theorem space_any (c : Int) (w : World) :
    Calls Tryd.prog 10 #[.int .u8 c] w fun e w' => e = .returned (.bool (spaceB c)) ∧ w' = w := by
  go_enter Tryd.func10, Tryd.ntmps10
  go_wp2
  all_goals
    go_ret
    refine ⟨ret_bool ?_, rfl⟩
    first
    | rfl
    | (rw [Bool.eq_iff_iff, space_of]
       simp <;> omega)

theorem or32 : ∀ n : Fin 256, (decide (97 ≤ bits .or .u8 (n.val : Int) 32) && decide (bits .or .u8 (n.val : Int) 32 ≤ 122)) = ((decide (97 ≤ (n.val : Int)) && decide ((n.val : Int) ≤ 122)) || (decide (65 ≤ (n.val : Int)) && decide ((n.val : Int) ≤ 90))) := by decide +kernel

theorem or32' (c : Int) (h0 : 0 ≤ c) (h1 : c < 256) : (97 ≤ bits .or .u8 c 32 ∧ bits .or .u8 c 32 ≤ 122) ↔ ((97 ≤ c ∧ c ≤ 122) ∨ (65 ≤ c ∧ c ≤ 90)) := by
  have := or32 ⟨c.toNat, by omega⟩
  simp only [Int.toNat_of_nonneg h0] at this
  rw [Bool.eq_iff_iff] at this
  simpa using this

set_option maxHeartbeats 400000 in
theorem inWord_any (c : Int) (w : World) (h0 : 0 ≤ c) (h1 : c < 256) :
    Calls Tryd.prog 19 #[.int .u8 c] w fun e w' => e = .returned (.bool (wordB c)) ∧ w' = w := by
  have H : Hid ((97 ≤ bits .or .u8 c 32 ∧ bits .or .u8 c 32 ≤ 122) ↔ ((97 ≤ c ∧ c ≤ 122) ∨ (65 ≤ c ∧ c ≤ 90))) := or32' c h0 h1
  go_enter Tryd.func19, Tryd.ntmps19
  go_wp2
  all_goals
    go_ret
    refine ⟨ret_bool ?_, rfl⟩
    first
    | rfl
    | (have H' := H.out
       rw [Bool.eq_iff_iff, word_of]
       simp <;> omega)
    | (have H' := H.out
       subst_vars
       rfl)

end Go.Proofs.Qxb6601006aDoor
