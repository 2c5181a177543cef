import Derived.Test.Qxb6601375aDoorProg
import Derived.Test.Qxb6601375aDoorP1
import Derived.Test.Qxb6601375aDoorShelf
import Derived.WalkKit
import Derived.WalkSpells
import Derived.WalkLawsBesides
import Derived.KernelRfl
import Derived.Lib.IndexBytes
namespace Go.Proofs.Qxb6601375aDoor
open Go.Shelf
open Go.RowKit

theorem ret_bool {a b : Bool} (h : a = b) : Ending.returned (.bool a) = .returned (.bool b) := by rw [h]
theorem ret_int {k : IntKind} {a b : Int} (h : a = b) : Ending.returned (.int k a) = .returned (.int k b) := by rw [h]

theorem trimLeft_con (s : ByteArray) (w : World) : ∃ t : ByteArray, (t.size : Int) = s.size - hashes s.data.toList ∧ Calls Tryd.prog 16 #[.string s, .string ⟨#[35]⟩] w fun e w' => e = .returned (.string t) ∧ w' = w := by
  have h := Any.strings_TrimLeft_one Tryd.lays161 s 35 (by decide) w
  refine ⟨_, ?_, h⟩
  have e : (⟨(Lib.trimLeftB s.data.toList 35).toArray⟩ : ByteArray).size = (Lib.trimLeftB s.data.toList 35).length := by show (Lib.trimLeftB s.data.toList 35).toArray.size = _; simp
  rw [e]
  unfold Lib.trimLeftB hashes
  have := congrArg List.length (List.takeWhile_append_dropWhile (p := (· == 35)) (l := s.data.toList))
  rw [List.length_append, len_size] at this
  omega
theorem prefix_con (s p : ByteArray) (w : World) : Calls Tryd.prog 17 #[.string s, .string p] w fun e w' => e = .returned (.bool (Lib.hasPrefix s.data.toList p.data.toList)) ∧ w' = w :=
  Any.strings_HasPrefix Tryd.lays99 s p w
theorem suffix_con (s : ByteArray) (w : World) (hs : s.size ≤ 1048576) : ∃ t : ByteArray, t.data.toList = bare s.data.toList ∧ Calls Tryd.prog 11 #[.string s, .string ⟨#[10]⟩] w fun e w' => e = .returned (.string t) ∧ w' = w :=
  ⟨_, rfl, Any.strings_TrimSuffix Tryd.lays102 s ⟨#[10]⟩ w (by omega)⟩
theorem index_con (s : ByteArray) (w : World) : Calls Tryd.prog 19 #[.string s, .int .u8 10] w fun e w' => e = .returned (.int .i64 (Lib.indexByte s.data.toList 10)) ∧ w' = w :=
  Any.strings_IndexByte Tryd.lays137 s 10 w

theorem prefix_space (l : List UInt8) (h : Nat) : Lib.hasPrefix (l.drop h) [32] = true ↔ h < l.length ∧ at0 l h = 32 := by
  have f : ∀ x : UInt8, (32 : UInt8) = x ↔ (x.toNat : Int) = 32 := fun x => by
    constructor
    · rintro rfl; rfl
    · intro h; exact UInt8.toNat_inj.1 (by show 32 = _; omega)
  unfold Lib.hasPrefix
  by_cases hl : h < l.length
  · rw [List.drop_eq_getElem_cons hl, at0_get l h hl]
    simp [List.isPrefixOf, f, hl]
  · rw [List.drop_eq_nil_of_le (by omega)]
    simp [hl]

theorem hashes_le (l : List UInt8) : hashes l ≤ l.length := by
  have := congrArg List.length (List.takeWhile_append_dropWhile (p := (· == 35)) (l := l))
  rw [List.length_append] at this
  unfold hashes
  omega

def spAt (l : List UInt8) (h : Nat) : Bool := decide (h < l.length ∧ at0 l h = 32)
theorem space_con (s : ByteArray) (h : Nat) (w : World) : Calls Tryd.prog 17 #[.string (s.extract h s.size), .string ⟨#[32]⟩] w fun e w' => e = .returned (.bool (spAt s.data.toList h)) ∧ w' = w := by
  have c := prefix_con (s.extract h s.size) ⟨#[32]⟩ w
  rw [Lib.extract_to_end] at c
  have e : Lib.hasPrefix (s.data.toList.drop h) [32] = spAt s.data.toList h := by
    unfold spAt
    rw [Bool.eq_iff_iff, prefix_space, decide_eq_true_eq]
  have c' : Calls Tryd.prog 17 #[.string (s.extract h s.size), .string ⟨#[32]⟩] w fun e w' => e = .returned (.bool (Lib.hasPrefix (s.data.toList.drop h) [32])) ∧ w' = w := c
  rw [e] at c'
  exact c'
theorem lev_sp (l : List UInt8) : lev l = if hashes l ≠ 0 ∧ spAt l (hashes l) = true then hashes l else 0 := by
  unfold lev spAt
  simp only [decide_eq_true_eq]

set_option maxHeartbeats 400000 in
theorem heading_any (s : ByteArray) (w : World) (hs : s.size ≤ 1048576) :
    Calls Tryd.prog 9 #[.string s] w fun e w' => e = .returned (.int .i64 (lev s.data.toList)) ∧ w' = w := by
  obtain ⟨t, ht, hcon⟩ := trimLeft_con s w
  have hh := hashes_le s.data.toList
  rw [len_size] at hh
  have hk : (s.size : Int) - t.size = (hashes s.data.toList : Int) := by omega
  have HLEV : Hid _ := lev_sp s.data.toList
  have hsp := fun wx => space_con s (hashes s.data.toList) wx
  clear ht
  generalize hashes s.data.toList = h at *
  generalize spAt s.data.toList h = b at *
  by_cases h0 : h = 0
  · subst h0
    go_enter Tryd.func9, Tryd.ntmps9
    go_wp2_with (first | (go_at_call 16; refine hcon.mono ?_; rintro e w ⟨rfl, rfl⟩))
    go_ret
    exact ⟨ret_int (by rw [HLEV.out]; simp), rfl⟩
  · have h0' : ((h : Int) == 0) = false := by rw [beq_eq_false_iff_ne]; omega
    cases b
    · go_enter Tryd.func9, Tryd.ntmps9
      go_wp2_with (first | (go_at_call 16; refine hcon.mono ?_; rintro e w ⟨rfl, rfl⟩) | (go_at_call 17; refine (hsp _).mono ?_; rintro e w ⟨rfl, rfl⟩))
      go_ret
      exact ⟨ret_int (by rw [HLEV.out]; simp), rfl⟩
    · go_enter Tryd.func9, Tryd.ntmps9
      go_wp2_with (first | (go_at_call 16; refine hcon.mono ?_; rintro e w ⟨rfl, rfl⟩) | (go_at_call 17; refine (hsp _).mono ?_; rintro e w ⟨rfl, rfl⟩))
      go_ret
      exact ⟨ret_int (by rw [HLEV.out]; simp [h0]), rfl⟩

/- ---- the model's level ---- -/
theorem hashes_eq : ∀ (l : List UInt8) (k : Nat), k ≤ l.length → (∀ j, j < k → at0 l j = 35) → (k = l.length ∨ at0 l k ≠ 35) → hashes l = k
  | [], k, hk, _, _ => by
    have : k = 0 := by simpa using hk
    subst this; rfl
  | a :: l, 0, _, _, he => by
    have h : (a == 35) = false := by
      rcases he with h | h
      · simp at h
      · rw [beq_eq_false_iff_ne]
        rintro rfl
        exact h rfl
    unfold hashes
    rw [List.takeWhile_cons, h]
    rfl
  | a :: l, k + 1, hk, hall, he => by
    have ha : a = 35 := UInt8.toNat_inj.1 (by have := hall 0 (by omega); have e : at0 (a :: l) 0 = (a.toNat : Int) := rfl; rw [e] at this; show _ = 35; omega)
    subst ha
    have ih := hashes_eq l k (by simpa using hk) (fun j hj => hall (j + 1) (by omega)) (by
      rcases he with h | h
      · exact .inl (by simpa using h)
      · exact .inr h)
    unfold hashes at ih ⊢
    rw [List.takeWhile_cons]
    simp [ih]

theorem lev_val (l : List UInt8) (k : Nat) (h : hashes l = k) : lev l = if k ≠ 0 ∧ k < l.length ∧ at0 l k = 32 then k else 0 := by
  unfold lev
  rw [h]

set_option maxHeartbeats 400000 in
theorem level_any (s : ByteArray) (w : World) (hs : s.size ≤ 1048576) :
    Calls Tryd.prog 15 #[.string s] w fun e w' => e = .returned (.int .i64 (lev s.data.toList)) ∧ w' = w := by
  go_enter Tryd.func15, Tryd.ntmps15
  go_wp2
  go_loop [3] (fun x => ∃ k : Nat, k ≤ s.size ∧ x = .int .i64 k ∧ ∀ j, j < k → at0 s.data.toList j = 35) (fun x => s.size - (intOf x).toNat)
  case atStart => exact ⟨0, Nat.zero_le _, rfl, fun j h => absurd h (Nat.not_lt_zero _)⟩
  case round =>
    obtain ⟨k, hk, rfl, hall⟩ := hrel
    have HALL : Hid (∀ j, j < k → at0 s.data.toList j = 35) := hall
    clear hall
    by_cases hlt : k < s.size
    · have HA : Hid (at0 s.data.toList k = (s[k].toNat : Int)) := at0_of s k hlt
      by_cases hc : (s[k].toNat : Int) = 35
      · have hc' : ((s[k].toNat : Int) == 35) = true := by simpa using hc
        have HC : Hid ((s[k].toNat : Int) = 35) := hc
        clear hc
        go_wp2
        go_round
        case rel =>
          refine ⟨k + 1, by omega, by go_num, fun j hj => ?_⟩
          by_cases hjk : j < k
          · exact HALL.out j hjk
          · obtain rfl : j = k := by omega
            rw [HA.out]; exact HC.out
        case measure => simp [intOf]; omega
      · have hc' : ((s[k].toNat : Int) == 35) = false := by simpa using hc
        have HH : Hid (hashes s.data.toList = k) := hashes_eq _ k (by rw [len_size]; omega) HALL.out (.inr (by rw [HA.out]; exact hc))
        have HLEV : Hid _ := lev_val s.data.toList k HH.out
        go_wp2
        all_goals
          go_ret
          refine ⟨ret_int ?_, rfl⟩
          rw [HLEV.out, HA.out, len_size]
          simp only [beq_iff_eq, bne_iff_ne, beq_eq_false_iff_ne, bne_eq_false_iff_eq] at *
          split <;> omega
    · have HH : Hid (hashes s.data.toList = s.size) := hashes_eq _ _ (by rw [len_size]; omega) (by have h := HALL.out; intro j hj; exact h j (by omega)) (.inl (len_size s).symm)
      have HLEV : Hid _ := lev_val s.data.toList s.size HH.out
      go_wp2
      all_goals
        go_ret
        refine ⟨ret_int ?_, rfl⟩
        rw [HLEV.out, len_size, if_neg (by omega)]
        rfl

/- ---- fences ---- -/
theorem fenced_any (s : ByteArray) (b : Bool) (w : World) :
    Calls Tryd.prog 12 #[.string s, .bool b] w fun e w' => e = .returned (.bool (fencedB s.data.toList b)) ∧ w' = w := by
  cases b
  · go_enter Tryd.func12, Tryd.ntmps12
    go_wp2_with (go_at_call 17; refine (prefix_con _ _ _).mono ?_; rintro e w ⟨rfl, rfl⟩)
    go_ret
    exact ⟨rfl, rfl⟩
  · go_enter Tryd.func12, Tryd.ntmps12
    go_wp2
    go_ret
    refine ⟨ret_bool ?_, rfl⟩
    unfold fencedB
    rw [← Lib.toList_data s]
    rfl

theorem begins_iff (l : List UInt8) : Lib.hasPrefix l [96, 96, 96] = true ↔ 3 ≤ l.length ∧ at0 l 0 = 96 ∧ at0 l 1 = 96 ∧ at0 l 2 = 96 := by
  have f : ∀ x : UInt8, (96 : UInt8) = x ↔ (x.toNat : Int) = 96 := fun x => by
    constructor
    · rintro rfl; rfl
    · intro h; exact UInt8.toNat_inj.1 (by show 96 = _; omega)
  unfold Lib.hasPrefix
  match l with
  | [] => simp
  | [a] => simp [List.isPrefixOf]
  | [a, b] => simp [List.isPrefixOf]
  | a :: b :: c :: l =>
    have e0 : at0 (a :: b :: c :: l) 0 = (a.toNat : Int) := rfl
    have e1 : at0 (a :: b :: c :: l) 1 = (b.toNat : Int) := rfl
    have e2 : at0 (a :: b :: c :: l) 2 = (c.toNat : Int) := rfl
    rw [e0, e1, e2]
    simp [List.isPrefixOf, f]

set_option maxHeartbeats 400000 in
theorem begins_any (s : ByteArray) (w : World) :
    Calls Tryd.prog 22 #[.string s] w fun e w' => e = .returned (.bool (Lib.hasPrefix s.data.toList [96, 96, 96])) ∧ w' = w := by
  have HB : Hid _ := begins_iff s.data.toList
  by_cases h3 : 3 ≤ s.size
  · have h0 : 0 < s.size := by omega
    have h1 : 1 < s.size := by omega
    have h2 : 2 < s.size := by omega
    have H0 : Hid (at0 s.data.toList 0 = (s[0].toNat : Int)) := at0_of s 0 h0
    have H1 : Hid (at0 s.data.toList 1 = (s[1].toNat : Int)) := at0_of s 1 h1
    have H2 : Hid (at0 s.data.toList 2 = (s[2].toNat : Int)) := at0_of s 2 h2
    go_enter Tryd.func22, Tryd.ntmps22
    go_wp2
    all_goals
      go_ret
      refine ⟨ret_bool ?_, rfl⟩
      rw [Bool.eq_iff_iff, HB.out, H0.out, H1.out, H2.out, len_size]
      simp <;> omega
  · go_enter Tryd.func22, Tryd.ntmps22
    go_wp2
    go_ret
    refine ⟨ret_bool ?_, rfl⟩
    rw [Bool.eq_iff_iff, HB.out, len_size]
    simp
    omega

theorem fence_eq (l : List UInt8) : (l == [96, 96, 96]) = true ↔ l.length = 3 ∧ Lib.hasPrefix l [96, 96, 96] = true := by
  unfold Lib.hasPrefix
  match l with
  | [] => simp
  | [a] => simp
  | [a, b] => simp
  | [a, b, c] =>
    simp [List.isPrefixOf]
    constructor
    · rintro ⟨rfl, rfl, rfl⟩; exact ⟨rfl, rfl, rfl⟩
    · rintro ⟨rfl, rfl, rfl⟩; exact ⟨rfl, rfl, rfl⟩
  | a :: b :: c :: d :: l => simp

theorem isFence_any (s : ByteArray) (w : World) :
    Calls Tryd.prog 21 #[.string s] w fun e w' => e = .returned (.bool (s.data.toList == [96, 96, 96])) ∧ w' = w := by
  have HB : Hid _ := fence_eq s.data.toList
  go_enter Tryd.func21, Tryd.ntmps21
  go_wp2_with (go_at_call 22; refine (begins_any _ _).mono ?_; rintro e w ⟨rfl, rfl⟩)
  all_goals
    go_ret
    refine ⟨ret_bool ?_, rfl⟩
    rw [Bool.eq_iff_iff, HB.out, len_size]
    simp <;> omega

end Go.Proofs.Qxb6601375aDoor
