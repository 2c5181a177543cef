import Derived.Test.Qxb6601006aDoorW4
import Derived.Test.Qxb6601006aDoorP2
import Derived.Test.Qxb6601006aDoorShelf
import Derived.ChangeAgain
namespace Go.Proofs.Qxb6601006aDoor
open Go.RowKit Go.Shelf Go.Lib

theorem dropWhile_le (p : UInt8 → Bool) : ∀ l : List UInt8, (l.dropWhile p).length ≤ l.length
  | [] => Nat.le_refl _
  | a :: r => by
    simp only [List.dropWhile]
    split
    · exact Nat.le_succ_of_le (dropWhile_le p r)
    · exact Nat.le_refl _
theorem right_le (l cs : List UInt8) : (Lib.trimRightS l cs).length ≤ l.length := by
  unfold Lib.trimRightS
  rw [List.length_reverse]
  exact Nat.le_trans (dropWhile_le _ _) (by simp)

theorem trim_con (s : ByteArray) (w : World) (hs : s.size ≤ 4194304) : ∃ t : ByteArray, t.data.toList = Lib.trimRightS s.data.toList wsB ∧ t.size ≤ s.size ∧
    Calls Tryd.prog 18 #[.string s, .string ⟨#[32, 9, 10, 13, 12, 11]⟩] w fun e w' => e = .returned (.string t) ∧ Below w.heap.size w w' := by
  have hcon := Any.strings_TrimRight_laid Tryd.lays162 (by kernel_rfl) s ⟨#[32, 9, 10, 13, 12, 11]⟩ w (by omega) (by decide) (ascii_of_all (by decide))
  refine ⟨⟨(Lib.trimRightS s.data.toList wsB).toArray⟩, rfl, ?_, hcon⟩
  have := right_le s.data.toList wsB
  rw [len_size] at this
  show (Lib.trimRightS s.data.toList wsB).toArray.size ≤ _
  simpa using this
theorem contains_con (s sub : ByteArray) (w : World) (h : w.ShapedOpen Tryd.prog) (hs : s.size < 4294967281) :
    Calls Tryd.prog 21 #[.string s, .string sub] w fun e w' => e = .returned (.bool (Lib.contains s.data.toList sub.data.toList)) ∧ w' = w :=
  Any.strings_Contains_shaped Tryd.laysM144 s sub w h hs
def dashB (l : List UInt8) : Bool := Lib.contains l [45, 45]
theorem dash_con (t : ByteArray) (a n : Nat) (w : World) (h : w.ShapedOpen Tryd.prog) (hn : t.size = n) (hs : n < 4294967281) :
    Calls Tryd.prog 21 #[.string (t.extract a n), .string ⟨#[45, 45]⟩] w fun e w' => e = .returned (.bool (dashB (t.data.toList.drop a))) ∧ w' = w := by
  subst hn
  have e := Lib.extract_to_end t a
  have hz : (t.extract a t.size).size < 4294967281 := by
    rw [← len_size, e, List.length_drop, len_size]
    omega
  have := contains_con (t.extract a t.size) ⟨#[45, 45]⟩ w h hz
  rw [e] at this
  exact this
theorem isAny_con (t : ByteArray) (k n b : Nat) (w : World) (hn : t.size = n) (hs : n ≤ maxLen)
    (h0 : w.cell? ⟨b, 0, none⟩ = some (.string ⟨#[98, 101, 103, 105, 110]⟩)) (h1 : w.cell? ⟨b, 1, none⟩ = some (.string ⟨#[116, 104, 101, 110]⟩))
    (h2 : w.cell? ⟨b, 2, none⟩ = some (.string ⟨#[101, 108, 115, 101]⟩)) (h3 : w.cell? ⟨b, 3, none⟩ = some (.string ⟨#[108, 111, 111, 112]⟩)) :
    Calls Tryd.prog 22 #[.string (t.extract k n), .slice (some ⟨b, 0, none⟩) 4 4] w fun e w' => e = .returned (.bool (isKw lowI (t.data.toList.drop k))) ∧ Below w.heap.size w w' := by
  subst hn
  have e := Lib.extract_to_end t k
  have hz : (t.extract k t.size).size ≤ maxLen := by
    rw [← len_size, e, List.length_drop, len_size]
    omega
  have := isAny_any (t.extract k t.size) b w hz h0 h1 h2 h3
  rw [e] at this
  exact this
theorem last_con (s : ByteArray) (n : Nat) (w : World) (hn : s.size = n) (hs : n < 4611686018427387904) :
    Calls Tryd.prog 20 #[.string s, .int .u8 10] w fun e w' => ∃ i : Int, e = .returned (.int .i64 i) ∧ i + 1 = (lsTo s.data.toList n : Int) ∧ w' = w :=
  (Any.strings_LastIndexByte Tryd.lays149 s 10 (by omega) w).mono fun _ _ ⟨he, hw⟩ => ⟨_, he, by rw [lastIndex_ls s, hn], hw⟩
theorem inWord_byte (b : UInt8) (w : World) : Calls Tryd.prog 19 #[.int .u8 (b.toNat : Int)] w fun e w' => e = .returned (.bool (wordB (b.toNat : Int))) ∧ w' = w :=
  inWord_any _ w (by omega) (by have := b.toNat_lt; omega)

theorem startsT_D (t ln : List UInt8) (e : Nat) (hl : t.length = e + 1) (hw : wordB (at0 t e) = true) : startsT t ln = (if Lib.contains ln [45, 45] then true else isKw lowI (t.drop (runTo t t.length))) := by
  have h34 : (at0 t e == 34) = false := by
    rw [beq_eq_false_iff_ne]
    intro h
    rw [h] at hw
    exact absurd hw (by decide)
  have he : t.isEmpty = false := by
    cases t with
    | nil => cases hl
    | cons a b => rfl
  unfold startsT
  rw [he, hl, Nat.add_sub_cancel, hw, h34]
  simp
theorem startsT_C (t ln : List UInt8) (e : Nat) (hl : t.length = e + 1) (h34 : at0 t e = 34) (h0 : 0 < e) (hw : wordB (at0 t (e - 1)) = true) : startsT t ln = Lib.contains ln [45, 45] := by
  have he : t.isEmpty = false := by
    cases t with
    | nil => cases hl
    | cons a b => rfl
  unfold startsT
  rw [he, hl, Nat.add_sub_cancel, h34, show e + 1 - 2 = e - 1 by omega, hw]
  have : decide (1 < e + 1) = true := by simpa using h0
  rw [this]
  cases Lib.contains ln [45, 45] <;> simp
theorem startsT_B (t ln : List UInt8) (e : Nat) (hl : t.length = e + 1) (hw : wordB (at0 t e) = false) (hq : at0 t e = 34 → 0 < e → wordB (at0 t (e - 1)) = false) : startsT t ln = true := by
  have he : t.isEmpty = false := by
    cases t with
    | nil => cases hl
    | cons a b => rfl
  have hq' : (at0 t e == 34 && decide (1 < e + 1) && wordB (at0 t (e - 1))) = false := by
    rw [Bool.eq_false_iff]
    intro h
    simp only [Bool.and_eq_true, beq_iff_eq, decide_eq_true_eq] at h
    have := hq h.1.1 (by omega)
    rw [this] at h
    exact absurd h.2 (by decide)
  unfold startsT
  rw [he, hl, Nat.add_sub_cancel, show e + 1 - 2 = e - 1 by omega, hq', hw]
  rfl

set_option maxHeartbeats 1000000 in
theorem starts_any (s : ByteArray) (w : World) (hs : s.size ≤ 4194304) (hsh : w.ShapedOpen Tryd.prog) :
    Calls Tryd.prog 15 #[.string s] w fun e w' => e = .returned (.bool (startsT (Lib.trimRightS s.data.toList wsB) ((Lib.trimRightS s.data.toList wsB).drop (lsTo (Lib.trimRightS s.data.toList wsB) (Lib.trimRightS s.data.toList wsB).length)))) ∧ Below w.heap.size w w' := by
  obtain ⟨t, HT, hts, hcon⟩ := trim_con s w hs
  rw [← HT]
  clear HT
  have HL : Hid (t.data.toList.length = t.size) := len_size t
  by_cases h0 : t.size = 0
  · have hem : t.toList.isEmpty = true := by
      have : t.toList = t.data.toList := Lib.toList_data t
      rw [this, List.isEmpty_iff_length_eq_zero, HL.out]
      exact h0
    clear h0
    go_enter Tryd.func15, Tryd.ntmps15
    go_wp2_with (go_at_call 18; refine hcon.mono ?_; rintro e w1 ⟨rfl, hb⟩)
    go_ret
    refine ⟨ret_bool ?_, hb⟩
    have : t.data.toList.isEmpty = true := by rw [← Lib.toList_data t]; exact hem
    unfold startsT
    rw [this]
    rfl
  · obtain ⟨e, he⟩ : ∃ e, t.size = e + 1 := ⟨t.size - 1, by omega⟩
    have hem : t.toList.isEmpty = false := by
      rw [Lib.toList_data t, ← Bool.not_eq_true, List.isEmpty_iff_length_eq_zero, HL.out]
      exact h0
    have b0 : e < t.size := by omega
    have b1 : e - 1 < t.size := by omega
    have b2 : e < 4194304 := by omega
    have HA : Hid (at0 t.data.toList e = ((t[e]'b0).toNat : Int)) := at0_of t e b0
    have HB : Hid (at0 t.data.toList (e - 1) = ((t[e - 1]'b1).toNat : Int)) := at0_of t (e - 1) b1
    have HE : Hid (t.data.toList.length = e + 1) := by rw [← he]; exact HL.out
    have c0 : (t[e]'b0).toNat < 256 := (t[e]'b0).toNat_lt
    have c1 : (t[e - 1]'b1).toNat < 256 := (t[e - 1]'b1).toNat_lt
    clear h0
    cases hw : wordB ((t[e]'b0).toNat : Int)
    · by_cases hq : ((t[e]'b0).toNat : Int) = 34 ∧ 0 < e ∧ wordB ((t[e - 1]'b1).toNat : Int) = true
      · -- a quote that closes a name
        obtain ⟨q1, q2, q3⟩ := hq
        have bl : lsTo t.data.toList (e + 1) ≤ e + 1 := lsTo_le _ _
        have HD : Hid _ := startsT_C t.data.toList (List.drop (lsTo t.data.toList (e + 1)) t.data.toList) e HE.out (by rw [HA.out]; exact q1) q2 (by rw [HB.out]; exact q3)
        rw [HE.out]
        go_enter Tryd.func15, Tryd.ntmps15
        go_wp2_with (first | (go_at_call 18; refine hcon.mono ?_; rintro e w1 ⟨rfl, hb⟩) | (go_at_call 19; refine (inWord_any _ _ (by omega) (by omega)).mono ?_; rintro e w2 ⟨rfl, rfl⟩) | (go_at_call 20; refine (last_con _ (e + 1) _ he (by omega)).mono ?_; rintro e w2 ⟨i, rfl, hi, rfl⟩) | (go_at_call 21; refine (dash_con t _ (e + 1) _ (hsh.keptBut (hb.frame (fun _ => False)) (fun _ h => h.elim)) he (by omega)).mono ?_; rintro e w2 ⟨rfl, rfl⟩))
        all_goals
          go_ret
          refine ⟨ret_bool ?_, hb⟩
          rw [HD.out]
          symm
          assumption
      · have HQ : Hid (¬ (((t[e]'b0).toNat : Int) = 34 ∧ 0 < e ∧ wordB ((t[e - 1]'b1).toNat : Int) = true)) := hq
        clear hq
        go_enter Tryd.func15, Tryd.ntmps15
        go_wp2_with (first | (go_at_call 18; refine hcon.mono ?_; rintro e w1 ⟨rfl, hb⟩) | (go_at_call 19; refine (inWord_any _ _ (by omega) (by omega)).mono ?_; rintro e w2 ⟨rfl, rfl⟩))
        all_goals first
        | (go_ret
           refine ⟨ret_bool (startsT_B _ _ e HE.out (by rw [HA.out]; assumption) ?_).symm, hb⟩
           rw [HA.out, HB.out]
           intro q1 q2
           rw [← Bool.not_eq_true]
           exact fun q3 => HQ.out ⟨q1, q2, q3⟩)
        | (exfalso
           exact HQ.out ⟨by assumption, by assumption, by simpa using ‹(!wordB _) = false›⟩)
    · -- the last word
      have bl : lsTo t.data.toList (e + 1) ≤ e + 1 := lsTo_le _ _
      have hn : (((t[e]'b0).toNat : Int) == 34) = false := by
        rw [beq_eq_false_iff_ne]
        intro h
        rw [h] at hw
        exact absurd hw (by decide)
      have HD : Hid _ := startsT_D t.data.toList (List.drop (lsTo t.data.toList (e + 1)) t.data.toList) e HE.out (by rw [HA.out]; exact hw)
      rw [HE.out]
      cases hd : dashB (List.drop (lsTo t.data.toList (e + 1)) t.data.toList)
      · go_enter Tryd.func15, Tryd.ntmps15
        go_wp2_with (first | (go_at_call 18; refine hcon.mono ?_; rintro e w1 ⟨rfl, hb⟩) | (go_at_call 19; refine (inWord_any _ _ (by omega) (by omega)).mono ?_; rintro e w2 ⟨rfl, rfl⟩) | (go_at_call 20; refine (last_con _ (e + 1) _ he (by omega)).mono ?_; rintro e w2 ⟨i, rfl, hi, rfl⟩) | (go_at_call 21; refine (dash_con t _ (e + 1) _ (hsh.keptBut (hb.frame (fun _ => False)) (fun _ h => h.elim)) he (by omega)).mono ?_; rintro e w2 ⟨rfl, rfl⟩))
        clear hsh
        go_loop [6] (fun x => ∃ k : Nat, k ≤ e ∧ x = .int .i64 k ∧ ∀ j, k ≤ j → j < e + 1 → wordB (at0 t.data.toList j) = true) (fun x => (RowKit.intOf x).toNat)
        case atStart =>
          refine ⟨e, Nat.le_refl _, rfl, fun j h1 h2 => ?_⟩
          obtain rfl : j = e := by omega
          rw [HA.out]
          exact hw
        case round =>
          obtain ⟨k, hk, rfl, hall⟩ := hrel
          have HALL : Hid (∀ j, k ≤ j → j < e + 1 → wordB (at0 t.data.toList j) = true) := hall
          clear hall
          by_cases hk0 : k = 0
          · subst hk0
            have HF : Hid (startsT t.data.toList (List.drop (lsTo t.data.toList (e + 1)) t.data.toList) = isKw lowI (t.data.toList.drop 0)) := by
              show _ = _
              rw [HD.out]
              unfold dashB at hd
              rw [hd, HE.out, runTo_eq t.data.toList 0 (e + 1) (by omega) HALL.out (.inl rfl)]
              rfl
            go_wp2_with (go_at_call 22; refine (isAny_con t 0 (e + 1) _ _ he (by unfold maxLen; omega) (by simp) (by simp) (by simp) (by simp)).mono ?_; rintro e w3 ⟨rfl, hb2⟩)
            go_ret
            exact ⟨ret_bool HF.out.symm, ((hb.alloc hb.size _).trans (hb2.mono (by have := hb.size; simp; omega)))⟩
          · have b3 : k - 1 < t.size := by omega
            have c3 : (t[k - 1]'b3).toNat < 256 := (t[k - 1]'b3).toNat_lt
            have H3 : Hid (at0 t.data.toList (k - 1) = ((t[k - 1]'b3).toNat : Int)) := at0_of t (k - 1) b3
            have hk1 : 0 < k := by omega
            cases hw3 : wordB ((t[k - 1]'b3).toNat : Int)
            · have HF : Hid (startsT t.data.toList (List.drop (lsTo t.data.toList (e + 1)) t.data.toList) = isKw lowI (t.data.toList.drop k)) := by
                show _ = _
                rw [HD.out]
                unfold dashB at hd
                rw [hd, HE.out, runTo_eq t.data.toList k (e + 1) (by omega) HALL.out (.inr (by rw [H3.out]; exact hw3))]
                rfl
              go_wp2_with (first | (go_at_call 19; refine (inWord_any _ _ (by omega) (by omega)).mono ?_; rintro e w2 ⟨rfl, rfl⟩) | (go_at_call 22; refine (isAny_con t k (e + 1) _ _ he (by unfold maxLen; omega) (by simp) (by simp) (by simp) (by simp)).mono ?_; rintro e w3 ⟨rfl, hb2⟩))
              go_ret
              exact ⟨ret_bool HF.out.symm, ((hb.alloc hb.size _).trans (hb2.mono (by have := hb.size; simp; omega)))⟩
            · go_wp2_with (go_at_call 19; refine (inWord_any _ _ (by omega) (by omega)).mono ?_; rintro e w2 ⟨rfl, rfl⟩)
              go_round
              case rel =>
                refine ⟨k - 1, by omega, by go_num, fun j h1 h2 => ?_⟩
                by_cases hj : j = k - 1
                · subst hj
                  rw [H3.out]
                  exact hw3
                · exact HALL.out j (by omega) h2
              case measure => simp [RowKit.intOf]; omega
      · go_enter Tryd.func15, Tryd.ntmps15
        go_wp2_with (first | (go_at_call 18; refine hcon.mono ?_; rintro e w1 ⟨rfl, hb⟩) | (go_at_call 19; refine (inWord_any _ _ (by omega) (by omega)).mono ?_; rintro e w2 ⟨rfl, rfl⟩) | (go_at_call 20; refine (last_con _ (e + 1) _ he (by omega)).mono ?_; rintro e w2 ⟨i, rfl, hi, rfl⟩) | (go_at_call 21; refine (dash_con t _ (e + 1) _ (hsh.keptBut (hb.frame (fun _ => False)) (fun _ h => h.elim)) he (by omega)).mono ?_; rintro e w2 ⟨rfl, rfl⟩))
        go_ret
        refine ⟨ret_bool ?_, hb⟩
        rw [HD.out]
        unfold dashB at hd
        rw [hd]
        rfl

end Go.Proofs.Qxb6601006aDoor
