import Derived.Test.Qxb6601856aDoorW3
namespace Go.Proofs.Qxb6601856aDoor
open Go.RowKit

def slen : Value → Nat
  | .slice _ n _ => n
  | _ => 0

set_option maxHeartbeats 1000000 in
set_option maxRecDepth 100000 in
theorem hasToken_any (p : Option Addr) (n c : Nat) (l : List UInt8) (t : ByteArray) (w : World) (hsh : w.ShapedOpen Tryd.prog) (h : Holds w p n c l) (ht : t.size ≤ 524288) :
    Calls Tryd.prog 12 #[.slice p n c, .string t] w fun e w' => e = .returned (.bool (tokL t.data.toList l)) ∧ Below w.heap.size w w' := by
  have HSH : Hid (w.ShapedOpen Tryd.prog) := hsh
  have H0 : Hid (Holds w p n c l) := h
  clear hsh h
  go_enter Tryd.func12, Tryd.ntmps12
  go_wp2
  go_loopw [0] (fun v wr => ∃ (p : Option Addr) (n c : Nat) (r : List UInt8), v = .slice p n c ∧ Holds wr p n c r ∧ tokL t.data.toList r = tokL t.data.toList l ∧ Below w.heap.size w wr) (fun v _ => slen v)
  case atStart => exact ⟨p, n, c, l, rfl, H0.out, rfl, Below.refl _ _⟩
  case round =>
    obtain ⟨p, n, c, r, rfl, hd, htok, hb⟩ := hrel
    have HD : Hid (Holds wr p n c r) := hd
    have HTOK : Hid (tokL t.data.toList r = tokL t.data.toList l) := htok
    have hnc : n ≤ 524288 := Nat.le_trans hd.2.1 hd.2.2.1
    clear htok hd H0
    by_cases h0 : 0 < n
    · have hne : r ≠ [] := fun e => by have := HD.out.1; rw [e] at this; simp at this; omega
      have HNE : Hid (r ≠ []) := hne
      obtain ⟨hx1, hx2⟩ := next_any p n c r wr (shaped_below HSH.out hb) HD.out
      rcases Int.lt_or_le (Lib.index r [44]) 0 with hneg | hpos
      · have hnx := hx1 hneg
        have HLAST : Hid (tokL t.data.toList r = P t.data.toList r) := tokL_last hne hneg
        have HLT : Hid (([] : List UInt8).length < r.length) := List.length_pos_iff.2 hne
        clear hx1 hx2 hneg hne
        cases hP : P t.data.toList r
        · have HT : Hid (tokL t.data.toList [] = tokL t.data.toList l) := by
            show _ = _
            rw [← HTOK.out, HLAST.out, hP]
            rw [tokL_nil]
          have hfo : ∀ p1 n1 c1 wx, Holds wx p1 n1 c1 (Lib.trimS r [32, 9]) → Calls Tryd.prog 16 #[.slice p1 n1 c1, .string t] wx fun e w' => e = .returned (.bool false) ∧ ∃ q, w' = wx.drewN q := fun p1 n1 c1 wx hx => by
            have h2 := equalFold_any p1 n1 c1 _ t wx hx.1 hx.2.2.2.2 (by have := hx.2.1; have := hx.2.2.1; omega) (by omega)
            rw [show foldB (Lib.trimS r [32, 9]) t.data.toList = false from hP] at h2
            exact h2
          have HP : Hid (P t.data.toList r = false) := hP
          clear hP
          go_wp2_with (first
            | (go_at_call 15; refine (hnx).mono ?_; rintro e w2 ⟨p1, n1, c1, p2, n2, c2, rfl, hd1, hd2, hb2⟩)
            | (go_at_call 16; refine (hfo _ _ _ _ hd1).mono ?_; rintro e w3 ⟨rfl, q, hw3⟩; have hb3 : Below w2.heap.size w2 w3 := (by rw [hw3]; exact below_drew (Below.refl _ _) _); clear hw3))
          go_roundw
          case rel =>
            have hs := hb.size
            have hs2 := hb2.size
            exact ⟨p2, n2, c2, [], rfl, hd2.below hb3, HT.out, below_after (below_after hb hs hb2) (by omega) hb3⟩
          case measure =>
            have e1 := hd2.1
            have e2 := HD.out.1
            have e3 : ([] : List UInt8).length < r.length := HLT.out
            show n2 < n
            omega
        · have HT : Hid (tokL t.data.toList l = true) := by
            show _ = _
            rw [← HTOK.out, HLAST.out, hP]

          have hfo : ∀ p1 n1 c1 wx, Holds wx p1 n1 c1 (Lib.trimS r [32, 9]) → Calls Tryd.prog 16 #[.slice p1 n1 c1, .string t] wx fun e w' => e = .returned (.bool true) ∧ ∃ q, w' = wx.drewN q := fun p1 n1 c1 wx hx => by
            have h2 := equalFold_any p1 n1 c1 _ t wx hx.1 hx.2.2.2.2 (by have := hx.2.1; have := hx.2.2.1; omega) (by omega)
            rw [show foldB (Lib.trimS r [32, 9]) t.data.toList = true from hP] at h2
            exact h2
          clear hP
          go_wp2_with (first
            | (go_at_call 15; refine (hnx).mono ?_; rintro e w2 ⟨p1, n1, c1, p2, n2, c2, rfl, hd1, hd2, hb2⟩)
            | (go_at_call 16; refine (hfo _ _ _ _ hd1).mono ?_; rintro e w3 ⟨rfl, q, hw3⟩; have hb3 : Below w2.heap.size w2 w3 := (by rw [hw3]; exact below_drew (Below.refl _ _) _); clear hw3))
          try go_ret
          have hs := hb.size
          have hs2 := hb2.size
          exact ⟨ret_bool HT.out.symm, below_after (below_after hb hs hb2) (by omega) hb3⟩
      · obtain ⟨i, hi⟩ := Int.eq_ofNat_of_zero_le hpos
        have hnx := hx2 i hi
        have HHIT : Hid (tokL t.data.toList r = (P t.data.toList (r.take i) || tokL t.data.toList (r.drop (i + 1)))) := tokL_hit hne hi
        have HLT : Hid ((r.drop (i + 1)).length < r.length) := by
          show _ < _
          have : 0 < r.length := List.length_pos_iff.2 hne
          rw [List.length_drop]
          omega
        clear hx1 hx2 hpos hi hne
        cases hP : P t.data.toList (r.take i)
        · have HT : Hid (tokL t.data.toList (r.drop (i + 1)) = tokL t.data.toList l) := by
            show _ = _
            rw [← HTOK.out, HHIT.out, hP]
            rfl
          have hfo : ∀ p1 n1 c1 wx, Holds wx p1 n1 c1 (Lib.trimS (r.take i) [32, 9]) → Calls Tryd.prog 16 #[.slice p1 n1 c1, .string t] wx fun e w' => e = .returned (.bool false) ∧ ∃ q, w' = wx.drewN q := fun p1 n1 c1 wx hx => by
            have h2 := equalFold_any p1 n1 c1 _ t wx hx.1 hx.2.2.2.2 (by have := hx.2.1; have := hx.2.2.1; omega) (by omega)
            rw [show foldB (Lib.trimS (r.take i) [32, 9]) t.data.toList = false from hP] at h2
            exact h2
          have HP : Hid (P t.data.toList (r.take i) = false) := hP
          clear hP
          go_wp2_with (first
            | (go_at_call 15; refine (hnx).mono ?_; rintro e w2 ⟨p1, n1, c1, p2, n2, c2, rfl, hd1, hd2, hb2⟩)
            | (go_at_call 16; refine (hfo _ _ _ _ hd1).mono ?_; rintro e w3 ⟨rfl, q, hw3⟩; have hb3 : Below w2.heap.size w2 w3 := (by rw [hw3]; exact below_drew (Below.refl _ _) _); clear hw3))
          go_roundw
          case rel =>
            have hs := hb.size
            have hs2 := hb2.size
            exact ⟨p2, n2, c2, (r.drop (i + 1)), rfl, hd2.below hb3, HT.out, below_after (below_after hb hs hb2) (by omega) hb3⟩
          case measure =>
            have e1 := hd2.1
            have e2 := HD.out.1
            have e3 : ((r.drop (i + 1)) : List UInt8).length < r.length := HLT.out
            show n2 < n
            omega
        · have HT : Hid (tokL t.data.toList l = true) := by
            show _ = _
            rw [← HTOK.out, HHIT.out, hP]
            rfl
          have hfo : ∀ p1 n1 c1 wx, Holds wx p1 n1 c1 (Lib.trimS (r.take i) [32, 9]) → Calls Tryd.prog 16 #[.slice p1 n1 c1, .string t] wx fun e w' => e = .returned (.bool true) ∧ ∃ q, w' = wx.drewN q := fun p1 n1 c1 wx hx => by
            have h2 := equalFold_any p1 n1 c1 _ t wx hx.1 hx.2.2.2.2 (by have := hx.2.1; have := hx.2.2.1; omega) (by omega)
            rw [show foldB (Lib.trimS (r.take i) [32, 9]) t.data.toList = true from hP] at h2
            exact h2
          clear hP
          go_wp2_with (first
            | (go_at_call 15; refine (hnx).mono ?_; rintro e w2 ⟨p1, n1, c1, p2, n2, c2, rfl, hd1, hd2, hb2⟩)
            | (go_at_call 16; refine (hfo _ _ _ _ hd1).mono ?_; rintro e w3 ⟨rfl, q, hw3⟩; have hb3 : Below w2.heap.size w2 w3 := (by rw [hw3]; exact below_drew (Below.refl _ _) _); clear hw3))
          try go_ret
          have hs := hb.size
          have hs2 := hb2.size
          exact ⟨ret_bool HT.out.symm, below_after (below_after hb hs hb2) (by omega) hb3⟩
    · obtain rfl : n = 0 := by omega
      have HZ : Hid (tokL t.data.toList l = false) := by
        show _ = _
        rw [← HTOK.out, List.length_eq_zero_iff.1 HD.out.1, tokL_nil]
      go_wp2
      go_ret
      exact ⟨ret_bool HZ.out.symm, hb⟩

theorem zz_any (p : Option Addr) (n c : Nat) (l : List UInt8) (t : ByteArray) (w : World) (hsh : w.ShapedOpen Tryd.prog) (h : Holds w p n c l) (ht : t.size ≤ 524288) :
    Calls Tryd.prog 8 #[.slice p n c, .string t] w fun e w' => e = .returned (.bool (tokL t.data.toList l)) ∧ Below w.heap.size w w' := by
  have hcon := hasToken_any p n c l t w hsh h ht
  go_enter Tryd.func8, Tryd.ntmps8
  go_wp2_with (go_at_call 12; refine hcon.mono ?_; rintro e w' ⟨rfl, hb⟩)
  go_ret
  exact ⟨rfl, hb⟩
end Go.Proofs.Qxb6601856aDoor
