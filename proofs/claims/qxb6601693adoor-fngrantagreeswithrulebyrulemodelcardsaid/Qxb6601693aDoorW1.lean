import Derived.Test.Qxb6601693aDoorProg
import Derived.Test.Qxb6601693aDoorP1
import Derived.Test.Qxb6601693aDoorShelf
import Derived.WalkKit
import Derived.WalkSpells
import Derived.WalkLawsBesides
import Derived.KernelRfl
import Derived.Deep.OwnRows
import Derived.Deep.QuietTactic
import Derived.BigQuiet
namespace Go.Proofs.Qxb6601693aDoor
open Go.Shelf
open Go.RowKit

theorem ret_bool {a b : Bool} (h : a = b) : Ending.returned (.bool a) = .returned (.bool b) := by rw [h]

/- ---- the library ---- -/
theorem prefix_con (s p : ByteArray) (w : World) : Calls Tryd.prog 40 #[.string s, .string p] w fun e w' => e = .returned (.bool (Lib.hasPrefix s.data.toList p.data.toList)) ∧ w' = w :=
  Any.strings_HasPrefix Tryd.lays99 s p w
theorem suffix_con (s p : ByteArray) (w : World) (hs : s.size ≤ 1048576) : Calls Tryd.prog 42 #[.string s, .string p] w fun e w' => e = .returned (.bool (Lib.hasSuffix s.data.toList p.data.toList)) ∧ w' = w :=
  Any.strings_HasSuffix Tryd.lays100 s p w (by omega)
theorem index_con (s p : ByteArray) (w : World) (hsh : w.ShapedOpen Tryd.prog) (hs : s.size ≤ 1048576) : Calls Tryd.prog 41 #[.string s, .string p] w fun e w' => e = .returned (.int .i64 (Lib.index s.data.toList p.data.toList)) ∧ w' = w :=
  Any.strings_Index_shaped Tryd.laysM143 s p w hsh (by omega)
theorem replace_con (s acc : ByteArray) (w : World) (hsh : w.ShapedOpen Tryd.prog) (hs : s.size ≤ 65536) (ha : acc.size ≤ 4096) : Calls Tryd.prog 38 #[.string s, .string ⟨#[36, 123, 97, 99, 99, 111, 117, 110, 116, 125]⟩, .string acc] w fun e w' => e = .returned (.string ⟨(ex acc.data.toList s.data.toList).toArray⟩) ∧ Below w.heap.size w w' := by
  have hc : Lib.countB s ⟨#[36, 123, 97, 99, 99, 111, 117, 110, 116, 125]⟩ ≤ 65537 := by
    have := Lib.count_le s.data.toList [36, 123, 97, 99, 99, 111, 117, 110, 116, 125]
    rw [len_size] at this
    have e : Lib.countB s ⟨#[36, 123, 97, 99, 99, 111, 117, 110, 116, 125]⟩ = Lib.count s.data.toList [36, 123, 97, 99, 99, 111, 117, 110, 116, 125] := rfl
    omega
  have h := Any.strings_ReplaceAll_shaped Tryd.laysM155 Tryd.Builder_Extra_155 s ⟨#[36, 123, 97, 99, 99, 111, 117, 110, 116, 125]⟩ acc w hsh (by omega) (by decide) (by
    have : Lib.countB s ⟨#[36, 123, 97, 99, 99, 111, 117, 110, 116, 125]⟩ * acc.size ≤ 65537 * 4096 := Nat.mul_le_mul hc ha
    omega)
  have e : Lib.replaceAll s.data.toList [36, 123, 97, 99, 99, 111, 117, 110, 116, 125] acc.data.toList = ex acc.data.toList s.data.toList := ex_eq _ _
  have h' : Calls Tryd.prog 38 #[.string s, .string ⟨#[36, 123, 97, 99, 99, 111, 117, 110, 116, 125]⟩, .string acc] w fun e w' => e = .returned (.string ⟨(Lib.replaceAll s.data.toList [36, 123, 97, 99, 99, 111, 117, 110, 116, 125] acc.data.toList).toArray⟩) ∧ Below w.heap.size w w' := h
  rw [e] at h'
  exact h'
theorem join_none_con (o : Option Addr) (c : Nat) (w : World) : Calls Tryd.prog 39 #[.slice o 0 c, .string ⟨#[]⟩] w fun e w' => e = .returned (.string ⟨#[]⟩) ∧ w' = w :=
  Any.strings_Join_none Tryd.lays156 Tryd.Builder_Extra_156 o c ⟨#[]⟩ w
theorem join_one_con (B c : Nat) (x : ByteArray) (w : World) (hx : w.cell? ⟨B, 0, none⟩ = some (.string x)) : Calls Tryd.prog 39 #[.slice (some ⟨B, 0, none⟩) 1 c, .string ⟨#[]⟩] w fun e w' => e = .returned (.string x) ∧ w' = w :=
  Any.strings_Join_one Tryd.lays156 Tryd.Builder_Extra_156 B 0 c x ⟨#[]⟩ w hx

/- ---- the argument: a slice of strings ---- -/
/-- v holds the strings ss -/
def ArgAt (w : World) (v : Value) (ss : List ByteArray) : Prop :=
  (v = .slice none 0 0 ∧ ss = []) ∨ ∃ a c, v = .slice (some a) ss.length c ∧ ∀ i, i < ss.length → w.cell? (a.add i) = some (.string (ss.getD i ByteArray.empty))

/-- what the guards hand back: a bool, and what it is worth where it is true -/
def Guard (w : World) (X : Prop) (e : Ending) (w' : World) : Prop := ∃ b : Bool, e = .returned (.bool b) ∧ (b = true → X) ∧ w' = w

set_option maxHeartbeats 400000 in
theorem places_any (s : ByteArray) (w : World) (hs : s.size ≤ 65536) :
    Calls Tryd.prog 37 #[.string s] w fun e w' => ∃ c : Nat, e = .returned (.int .i64 c) ∧ c ≤ s.size ∧ w' = w := by
  go_enter Tryd.func37, Tryd.ntmps37
  go_wp2
  go_loop [3, 4] (fun c i => ∃ (k n : Nat), k ≤ s.size ∧ n ≤ k ∧ i = .int .i64 k ∧ c = .int .i64 n) (fun _ i => s.size - (intOf i).toNat)
  case atStart => exact ⟨0, 0, Nat.zero_le _, Nat.zero_le _, rfl, rfl⟩
  case round =>
    obtain ⟨k, n, hk, hn, rfl, rfl⟩ := hrel
    by_cases hlt : k + 10 ≤ s.size
    · cases hq : ((s.extract k (k + 10)).toList == [36, 123, 97, 99, 99, 111, 117, 110, 116, 125])
      · go_wp2
        go_round
        case rel => exact ⟨k + 1, n, by omega, by omega, by go_num, rfl⟩
        case measure => simp [intOf]; omega
      · go_wp2
        go_round
        case rel => exact ⟨k + 10, n + 1, by omega, by omega, by go_num, by go_num⟩
        case measure => simp [intOf]; omega
    · go_wp2
      go_ret
      exact ⟨n, rfl, by omega, rfl⟩

set_option maxHeartbeats 1000000 in
theorem bytes_any (v : Value) (b : Bool) (acc name : ByteArray) (ss : List ByteArray) (w : World) (h : ArgAt w v ss) (hl : ss.length ≤ maxLen) (hss : ∀ s ∈ ss, s.size ≤ maxLen) (ha : acc.size ≤ maxLen) (hn : name.size ≤ maxLen) :
    Calls Tryd.prog 8 #[v, .bool b, .string acc, .string name] w (Guard w True) := by
  unfold maxLen at *
  rcases h with ⟨rfl, rfl⟩ | ⟨a, c, rfl, hc⟩
  · go_enter Tryd.func8, Tryd.ntmps8
    go_wp2
    go_loop [9, 10] (fun x i => x = .int .i64 0 ∧ i = .int .i64 0) (fun _ _ => 0)
    case atStart => exact ⟨rfl, rfl⟩
    case round =>
      obtain ⟨rfl, rfl⟩ := hrel
      go_wp2
      all_goals
        go_ret
        exact ⟨_, rfl, fun _ => trivial, rfl⟩
  · by_cases hb : ss.length ≤ 1048576
    · go_enter Tryd.func8, Tryd.ntmps8
      go_wp2
      go_loop [9, 10] (fun x i => ∃ n k : Nat, n ≤ 1048576 ∧ k ≤ ss.length ∧ x = .int .i64 n ∧ i = .int .i64 k) (fun _ i => ss.length - (intOf i).toNat)
      case atStart => exact ⟨ss.length, 0, hb, Nat.zero_le _, rfl, rfl⟩
      case round =>
        obtain ⟨n, k, hn1, hk, rfl, rfl⟩ := hrel
        by_cases hlt : k < ss.length
        · have hcell := hc k hlt
          have hsz : (ss.getD k ByteArray.empty).size ≤ 9223372036854775807 := by
            rw [List.getD_eq_getElem?_getD, List.getElem?_eq_getElem hlt]
            exact hss _ (List.getElem_mem hlt)
          generalize ss.getD k ByteArray.empty = x at *
          clear hc hss
          by_cases hx : x.size ≤ 1048576
          · by_cases hx2 : n + x.size ≤ 1048576
            · go_wp2
              go_round
              case rel => exact ⟨n + x.size, k + 1, hx2, by omega, by go_num, by go_num⟩
              case measure => simp [intOf]; omega
            · go_wp2
              go_ret
              exact ⟨_, rfl, fun _ => trivial, rfl⟩
          · go_wp2
            go_ret
            exact ⟨_, rfl, fun _ => trivial, rfl⟩
        · clear hc hss
          by_cases h2 : acc.size ≤ 1048576
          · go_wp2
            all_goals
              go_ret
              exact ⟨_, rfl, fun _ => trivial, rfl⟩
          · go_wp2
            go_ret
            exact ⟨_, rfl, fun _ => trivial, rfl⟩
    · go_enter Tryd.func8, Tryd.ntmps8
      go_wp2
      go_ret
      exact ⟨_, rfl, fun _ => trivial, rfl⟩
end Go.Proofs.Qxb6601693aDoor
