import Derived.Test.Qxb6601006aDoorW1
import Derived.Deep.QuietTactic
import Derived.BigQuiet
namespace Go.Proofs.Qxb6601006aDoor
open Go.RowKit

/-- byte j of a list, as an Int; 0 beyond the end -/
def at0 (l : List UInt8) (j : Nat) : Int := ((l.getD j 0).toNat : Int)
theorem at0_of (s : ByteArray) (k : Nat) (h : k < s.size) : at0 s.data.toList k = (s[k].toNat : Int) := by
  have e : s.data.toList.getD k 0 = s[k] := by
    rw [List.getD_eq_getElem?_getD, List.getElem?_eq_getElem (by simpa using h)]
    rfl
  unfold at0
  rw [e]
theorem at0_lo (l : List UInt8) (j : Nat) : 0 ≤ at0 l j := by unfold at0; omega
theorem at0_hi (l : List UInt8) (j : Nat) : at0 l j < 256 := by
  unfold at0
  have := (l.getD j 0).toNat_lt
  omega

def lowI (c : Int) : Int := if 65 ≤ c ∧ c ≤ 90 then c + 32 else c
def foldBy (f : Int → Int) (l kw : List UInt8) : Bool := decide (l.length = kw.length ∧ ∀ j, j < l.length → f (at0 l j) = at0 kw j)
theorem foldBy_no {f : Int → Int} {l kw : List UInt8} {k : Nat} (hk : k < l.length) (h : f (at0 l k) ≠ at0 kw k) : foldBy f l kw = false := by
  unfold foldBy
  rw [decide_eq_false_iff_not]
  exact fun ⟨_, h2⟩ => h (h2 k hk)
theorem foldBy_len {f : Int → Int} {l kw : List UInt8} (h : l.length ≠ kw.length) : foldBy f l kw = false := by
  unfold foldBy
  rw [decide_eq_false_iff_not]
  exact fun ⟨h1, _⟩ => h h1
theorem foldBy_yes {f : Int → Int} {l kw : List UInt8} (h : l.length = kw.length) (h2 : ∀ j, j < l.length → f (at0 l j) = at0 kw j) : foldBy f l kw = true := by
  unfold foldBy
  rw [decide_eq_true_eq]
  exact ⟨h, h2⟩
theorem len_size (s : ByteArray) : s.data.toList.length = s.size := by simp

set_option maxHeartbeats 400000 in
theorem fold_any (s kw : ByteArray) (w : World) (hs : s.size ≤ maxLen) :
    Calls Tryd.prog 32 #[.string s, .string kw] w fun e w' => e = .returned (.bool (foldBy lowI s.data.toList kw.data.toList)) ∧ w' = w := by
  unfold maxLen at hs
  by_cases hl : s.size = kw.size
  · have hl' : ((s.size : Int) != (kw.size : Int)) = false := by rw [hl]; simp
    have HL : Hid (s.size = kw.size) := hl
    clear hl
    go_enter Tryd.func32, Tryd.ntmps32
    go_wp2
    go_loop [14] (fun i => ∃ k : Nat, k ≤ s.size ∧ i = .int .i64 k ∧ ∀ j, j < k → lowI (at0 s.data.toList j) = at0 kw.data.toList j) (fun i => s.size - (intOf i).toNat)
    case atStart => exact ⟨0, Nat.zero_le _, rfl, fun j h => absurd h (Nat.not_lt_zero _)⟩
    case round =>
      obtain ⟨k, hk, rfl, hall⟩ := hrel
      by_cases hlt : k < s.size
      · have hlt2 : k < kw.size := by have := HL.out; omega
        have HA : Hid (at0 s.data.toList k = (s[k].toNat : Int)) := at0_of s k hlt
        have HB : Hid (at0 kw.data.toList k = (kw[k].toNat : Int)) := at0_of kw k hlt2
        go_wp2
        all_goals first
        | (go_ret
           refine ⟨ret_bool (foldBy_no (k := k) (by rw [len_size]; exact hlt) ?_).symm, rfl⟩
           rw [HA.out, HB.out]
           simp only [bne_iff_ne] at *
           unfold lowI
           split <;> omega)
        | (go_round
           case rel =>
             refine ⟨k + 1, by omega, by go_num, fun j hj => ?_⟩
             by_cases hjk : j < k
             · exact hall j hjk
             · obtain rfl : j = k := by omega
               rw [HA.out, HB.out]
               simp only [bne_eq_false_iff_eq] at *
               unfold lowI
               split <;> omega
           case measure => simp [intOf]; omega)
      · go_wp2
        go_ret
        obtain rfl : k = s.size := by omega
        exact ⟨ret_bool (foldBy_yes (by rw [len_size, len_size]; exact HL.out) (by rw [len_size]; exact hall)).symm, rfl⟩
  · have hl' : ((s.size : Int) != (kw.size : Int)) = true := by rw [bne_iff_ne]; omega
    go_enter Tryd.func32, Tryd.ntmps32
    go_wp2
    go_ret
    exact ⟨ret_bool (foldBy_len (by rw [len_size, len_size]; exact hl)).symm, rfl⟩

def orI (c : Int) : Int := bits .or .u8 c 32

set_option maxHeartbeats 400000 in
theorem foldIs_any (s kw : ByteArray) (w : World) (hs : s.size ≤ maxLen) :
    Calls Tryd.prog 23 #[.string s, .string kw] w fun e w' => e = .returned (.bool (foldBy orI s.data.toList kw.data.toList)) ∧ ∃ n, w' = w.drewN n := by
  unfold maxLen at hs
  by_cases hl : s.size = kw.size
  · have hl' : ((s.size : Int) != (kw.size : Int)) = false := by rw [hl]; simp
    have HL : Hid (s.size = kw.size) := hl
    clear hl
    go_enter Tryd.func23, Tryd.ntmps23
    go_wp2
    go_loopw [5] (fun i wr => ∃ (k n : Nat), k ≤ s.size ∧ i = .int .i64 k ∧ wr = w.drewN n ∧ ∀ j, j < k → orI (at0 s.data.toList j) = at0 kw.data.toList j) (fun i _ => s.size - (intOf i).toNat)
    case atStart => exact ⟨0, 0, Nat.zero_le _, rfl, rfl, fun j h => absurd h (Nat.not_lt_zero _)⟩
    case round =>
      obtain ⟨k, n, hk, rfl, rfl, hall⟩ := hrel
      by_cases hlt : k < s.size
      · have hlt2 : k < kw.size := by have := HL.out; omega
        have HA : Hid (at0 s.data.toList k = (s[k].toNat : Int)) := at0_of s k hlt
        have HB : Hid (at0 kw.data.toList k = (kw[k].toNat : Int)) := at0_of kw k hlt2
        go_wp2
        go_quiet (fail)
        go_wp2
        · go_ret
          refine ⟨ret_bool (foldBy_no (k := k) (by rw [len_size]; exact hlt) ?_).symm, n + nq, by simp⟩
          rw [HA.out, HB.out]
          simp only [bne_iff_ne] at *
          assumption
        · go_roundw
          case rel =>
            refine ⟨k + 1, _, by omega, by go_num, rfl, fun j hj => ?_⟩
            by_cases hjk : j < k
            · exact hall j hjk
            · obtain rfl : j = k := by omega
              rw [HA.out, HB.out]
              simp only [bne_eq_false_iff_eq] at *
              assumption
          case measure => simp [intOf]; omega
      · go_wp2
        go_ret
        obtain rfl : k = s.size := by omega
        exact ⟨ret_bool (foldBy_yes (by rw [len_size, len_size]; exact HL.out) (by rw [len_size]; exact hall)).symm, n, rfl⟩
  · have hl' : ((s.size : Int) != (kw.size : Int)) = true := by rw [bne_iff_ne]; omega
    go_enter Tryd.func23, Tryd.ntmps23
    go_wp2
    go_ret
    exact ⟨ret_bool (foldBy_len (by rw [len_size, len_size]; exact hl)).symm, 0, rfl⟩

def kwBegin : List UInt8 := [98, 101, 103, 105, 110]
def kwThen : List UInt8 := [116, 104, 101, 110]
def kwElse : List UInt8 := [101, 108, 115, 101]
def kwLoop : List UInt8 := [108, 111, 111, 112]
def isKw (f : Int → Int) (l : List UInt8) : Bool := foldBy f l [98, 101, 103, 105, 110] || foldBy f l [116, 104, 101, 110] || foldBy f l [101, 108, 115, 101] || foldBy f l [108, 111, 111, 112]

set_option maxHeartbeats 400000 in
theorem isKw_any (s : ByteArray) (w : World) (hs : s.size ≤ maxLen) :
    Calls Tryd.prog 16 #[.string s] w fun e w' => e = .returned (.bool (isKw orI s.data.toList)) ∧ ∃ n, w' = w.drewN n := by
  go_enter Tryd.func16, Tryd.ntmps16
  go_wp2_with (go_at_call 23; refine (foldIs_any _ _ _ hs).mono ?_; rintro e w' ⟨rfl, n, rfl⟩)
  all_goals
    go_ret
    refine ⟨ret_bool ?_, ?_⟩
    · unfold isKw
      simp [*]
    · first
      | exact ⟨_, rfl⟩
      | exact ⟨_, World.drewN_drewN⟩
      | (simp only [World.drewN_drewN]; exact ⟨_, rfl⟩)

end Go.Proofs.Qxb6601006aDoor
