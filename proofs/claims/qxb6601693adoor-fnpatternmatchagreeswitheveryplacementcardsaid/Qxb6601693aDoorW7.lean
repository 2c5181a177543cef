import Derived.Test.Qxb6601693aDoorW6
namespace Go.Proofs.Qxb6601693aDoor
open Go.RowKit

theorem own_form {w : World} {v : Value} {ss : List ByteArray} (h : OwnAt w v ss) : ∃ o c, v = .slice o ss.length c ∧ ∀ k, k < ss.length → ∃ B, o = some ⟨B, 0, none⟩ ∧ B < w.heap.size ∧ w.cell? ⟨B, k, none⟩ = some (.string (ss.getD k ByteArray.empty)) := by
  rcases h with ⟨rfl, rfl⟩ | ⟨B, c, rfl, _, _, hB, hc⟩
  · exact ⟨none, 0, rfl, fun k hk => absurd hk (Nat.not_lt_zero _)⟩
  · exact ⟨_, _, rfl, fun k hk => ⟨B, rfl, hB, hc k hk⟩⟩
theorem own_below {w w' : World} {v : Value} {ss : List ByteArray} (h : OwnAt w v ss) (hb : Below w.heap.size w w') : OwnAt w' v ss := by
  rcases h with h | ⟨B, c, rfl, h1, h2, hB, hc⟩
  · exact .inl h
  · have := hb.size
    exact .inr ⟨B, c, rfl, h1, h2, by omega, fun j hj => cell_below hb (a := ⟨B, j, none⟩) hB (hc j hj)⟩

set_option maxHeartbeats 4000000 in
set_option maxRecDepth 100000 in
theorem law_any (v : Value) (b : Bool) (acc name : ByteArray) (ss : List ByteArray) (w : World) (h : ArgAt w v ss) (hl : ss.length ≤ maxLen) (hss : ∀ s ∈ ss, s.size ≤ maxLen) (ha : acc.size ≤ maxLen) (hn : name.size ≤ maxLen) (hsh : w.ShapedOpen Tryd.prog) :
    Calls Tryd.prog 3 #[v, .bool b, .string acc, .string name] w fun e w' => e = .returned (.bool true) ∧ Below w.heap.size w w' := by
  have h8 := bytes_any v b acc name ss w h hl hss ha hn
  have h9 := fits_any v b acc name ss w h hl hss ha hn
  have HARG : Hid (ArgAt w v ss) := h
  have HSH : Hid (w.ShapedOpen Tryd.prog) := hsh
  clear h hl hss ha hn hsh
  go_enter Tryd.func3, Tryd.ntmps3
  go_wp2_with (first | (go_at_call 8; refine h8.mono ?_; rintro e w ⟨b8, rfl, _, rfl⟩) | (go_at_call 9; refine h9.mono ?_; rintro e w ⟨b9, rfl, hfit, rfl⟩))
  · go_ret
    exact ⟨rfl, Below.refl _ _⟩
  · go_ret
    exact ⟨rfl, Below.refl _ _⟩
  · have hb8 : (!b8) = false := by assumption
    have hb9 : (!b9) = false := by assumption
    obtain rfl : b8 = true := by simpa using hb8
    obtain rfl : b9 = true := by simpa using hb9
    have hF : Fits ss acc name := hfit rfl
    simp only [Bool.not_true]
    clear hfit h8 h9 hb8 hb9
    refine (clone_any v ss w HARG.out hF.1).mono ?_
    rintro e w1 ⟨v', rfl, hown, hb1⟩
    obtain ⟨o, c, rfl, hcell⟩ := own_form hown
    have HOWN : Hid (OwnAt w1 (.slice o ss.length c) ss) := hown
    have HCELL : Hid (∀ k, k < ss.length → ∃ B, o = some ⟨B, 0, none⟩ ∧ B < w1.heap.size ∧ w1.cell? ⟨B, k, none⟩ = some (.string (ss.getD k ByteArray.empty))) := hcell
    clear hown hcell
    have HF : Hid (Fits ss acc name) := hF
    obtain ⟨hl, ha, hn, _⟩ := hF
    obtain ⟨M, HM⟩ : ∃ M, Hid (ss.length = M) := ⟨_, rfl⟩
    rw [HM.out] at hl HCELL HOWN ⊢
    have hmk := fun wx => run_make_row' (P := Tryd.prog) 22 9 (.string ByteArray.empty) 16 Tryd.underlying22 Tryd.info9 rfl .i64 .i64 M (by omega) (by omega) wx
    have hm := madeF w1 M (fun i => (expL b acc ss).getD i ByteArray.empty)
    have hb2 := (Below.refl _ w1).alloc (Nat.le_refl _) (.cells (madeCells #[.string ByteArray.empty] M) 9)
    have hz2 : w1.heap.size < (w1.alloc (.cells (madeCells #[.string ByteArray.empty] M) 9)).heap.size := by simp
    simp only []
    go_at_K
    go_wp2
    generalize w1.alloc (.cells (madeCells #[.string ByteArray.empty] M) 9) = w2 at *
    clear hmk
    go_loopw [10] (fun i wr => ∃ k : Nat, k ≤ M ∧ i = .int .i64 k ∧ strsF wr w1.heap.size M (fun i => (expL b acc ss).getD i ByteArray.empty) k ∧ w1.heap.size < wr.heap.size ∧ Below w1.heap.size w1 wr) (fun i _ => M - (intOf i).toNat)
    case atStart => exact ⟨0, Nat.zero_le _, rfl, hm, hz2, hb2⟩
    case round =>
      obtain ⟨k, hk, rfl, hst, hz, hb⟩ := hrel
      clear hm hb2 hz2
      have HST : Hid (strsF wr w1.heap.size M (fun i => (expL b acc ss).getD i ByteArray.empty) k) := hst
      clear hst
      by_cases hlt : k < M
      · obtain ⟨B, rfl, hB, hcB⟩ := HCELL.out k hlt
        have hck := cell_below hb (a := ⟨B, k, none⟩) hB hcB
        have hsk := HF.out.2.2.2 k (by rw [HM.out]; exact hlt)
        have HXK : Hid _ := expL_getD b acc ss k (by rw [HM.out]; exact hlt)
        obtain ⟨y, HY⟩ : ∃ x, Hid (ss.getD k ByteArray.empty = x) := ⟨_, rfl⟩
        rw [HY.out] at hck hsk HXK
        clear hcB
        go_wp2_with (first | (go_at_call 11; refine (expand_any y acc b wr hsk ha).mono ?_; rintro e w3 ⟨r, rfl, hr, hb3⟩; obtain ⟨z, hcz, hfz, _⟩ := (HST.out.below hz hb3) k hlt; have HR : Hid (r = if b then ⟨(ex acc.data.toList y.data.toList).toArray⟩ else y) := (by show _ = _; refine ByteArray.ext (Array.ext' ?_); rw [hr]; cases b <;> rfl); clear hr))
        go_roundw
        case rel =>
          have hbs := hb.size
          have := hb3.size
          exact ⟨k + 1, by omega, by go_num, (HST.out.below hz hb3).set _ (HR.out.trans HXK.out.symm), by simp only [World.size_setCell]; omega, (below_after hb hbs hb3).setCell (Nat.le_refl _) _⟩
        case measure => simp [intOf]; omega
      · obtain rfl : k = M := by omega
        have hbW : Below w.heap.size w wr := below_after hb1 hb1.size hb
        have hE : OwnAt wr (.slice (some ⟨w1.heap.size, 0, none⟩) k k) (expL b acc ss) := .inr ⟨w1.heap.size, k, by rw [expL_length, HM.out], by rw [expL_length, HM.out]; exact Nat.le_refl _, by unfold maxLen; omega, hz, fun j hj => HST.out.cell j (by rw [expL_length, HM.out] at hj; exact hj)⟩
        have hO := own_below HOWN.out hb
        have HSW : Hid _ := shaped_below HSH.out hbW
        clear hz HST HCELL HOWN
        go_wp2_with (first
          | (go_at_call 12; refine (pattern_any _ _ _ _ _).mono ?_; rintro e w3 ⟨rfl, hb3⟩)
          | (go_at_call 13; refine (match_any acc name _ ss b w3 (shaped_below HSW.out hb3) (own_below hO hb3) HF.out).mono ?_; rintro e w4 ⟨rfl, hb4⟩)
          | (go_at_call 14; refine (seg_any name _ (expL b acc ss) w4 (own_below (own_below hE hb3) hb4) hn (by rw [expL_length, HM.out]; exact hl) (expL_size b acc ss ha HF.out.2.2.2)).mono ?_; rintro e w5 ⟨rfl, hb5⟩))
        all_goals
          go_ret
          have s1 := hbW.size
          have s3 := hb3.size
          have s4 := hb4.size
          exact ⟨ret_bool (by simp), below_after (below_after (below_after hbW s1 hb3) (by omega) hb4) (by omega) hb5⟩
end Go.Proofs.Qxb6601693aDoor
