import Derived.Test.Qxb6601006aDoorW7
import Derived.Test.Qxb6601006aDoorP3
namespace Go.Proofs.Qxb6601006aDoor
open Go.RowKit

theorem kwOf_list (c : Int) : isKwList (kwOf c).data.toList := by
  unfold isKwList kwOf
  split
  · exact .inl rfl
  split
  · exact .inr (.inl rfl)
  split
  · exact .inr (.inr (.inl rfl))
  · exact .inr (.inr (.inr rfl))

set_option maxHeartbeats 400000 in
theorem bytes4_any (p pad : ByteArray) (c m : Int) (w : World) (h1 : p.size ≤ maxLen) (h2 : pad.size ≤ maxLen) :
    Calls Tryd.prog 11 #[.string p, .int .u8 c, .int .u8 m, .string pad] w fun e w' => e = .returned (.bool (decide (p.size + pad.size ≤ 1048576))) ∧ w' = w := by
  unfold maxLen at h1 h2
  by_cases a : p.size ≤ 1048576
  · by_cases b : pad.size ≤ 1048576
    · by_cases h : p.size + pad.size ≤ 1048576
      · go_enter Tryd.func11, Tryd.ntmps11
        go_wp2
        go_ret
        exact ⟨ret_bool (by simp [h]), rfl⟩
      · go_enter Tryd.func11, Tryd.ntmps11
        go_wp2
        go_ret
        exact ⟨ret_bool (by simp [h]), rfl⟩
    · go_enter Tryd.func11, Tryd.ntmps11
      go_wp2
      go_ret
      exact ⟨ret_bool (by simp; omega), rfl⟩
  · go_enter Tryd.func11, Tryd.ntmps11
    go_wp2
    go_ret
    exact ⟨ret_bool (by simp; omega), rfl⟩

theorem row_at (w : World) (K : ByteArray) (cap : Nat) (e : TypeId) : bytesAt (w.alloc (.cells (bytesRow K cap) e ((bytesRow K cap).size, (bytesRow K cap).size + 1))) w.heap.size K.data.toList := by
  intro j hj
  have hj' : j < K.data.size := by simpa using hj
  have hs : K.size ≤ (bytesRow K cap).size := by unfold bytesRow; simp
  refine ⟨?_, ?_⟩
  · rw [World.cell?_alloc_mark, bytesRow_at K cap j hj', at0_get _ j hj]
    rfl
  · rw [World.frozen?_alloc_mark]
    have : ¬ (bytesRow K cap).size ≤ j := by
      have h2 : K.size = K.data.size := rfl
      omega
    simp [this]

theorem bytesAt.below {w w2 : World} {B : Nat} {xs : List UInt8} (h : bytesAt w B xs) (hB : B < w.heap.size) (hb : Below w.heap.size w w2) : bytesAt w2 B xs := fun j hj => by
  obtain ⟨h1, h2⟩ := h j hj
  exact ⟨(hb.cell (p := ⟨B, j, none⟩) hB).trans h1, (hb.frozen (p := ⟨B, j, none⟩) hB).trans h2⟩
theorem app_data (a b : ByteArray) : (a ++ b).data.toList = a.data.toList ++ b.data.toList := by simp
theorem app_size (a b : ByteArray) : (a ++ b).size = a.size + b.size := by rw [← len_size, app_data, List.length_append, len_size, len_size]

/-- the last call: the text is p, a keyword in whatever case, and space -/
theorem zz_con (p X t K : ByteArray) (w : World) (hsh : w.ShapedOpen Tryd.prog) (h1 : p.size ≤ 524288) (h2 : X.size ≤ 5) (h3 : t.size ≤ 524288) (hkl : isKwList K.data.toList)
    (hl : X.size = K.size) (hlow : ∀ j, j < K.size → lowI (at0 X.data.toList j) = at0 K.data.toList j) (hsp : ∀ j, j < t.size → spaceB (at0 t.data.toList j) = true) (hp : p.size = 0 ∨ wordB (at0 p.data.toList (p.size - 1)) = false) :
    Calls Tryd.prog 7 #[.string (p ++ X ++ t)] w fun e w' => e = .returned (.bool true) ∧ Below w.heap.size w w' := by
  have hz := zz_any (p ++ X ++ t) w (by rw [app_size, app_size]; omega) hsh
  rw [app_data, app_data, accepts_law p.data.toList X.data.toList t.data.toList K.data.toList hkl (by rw [len_size, len_size]; exact hl) (by rw [len_size, hl]; exact hlow) (by rw [len_size]; exact hsp)
    (by rcases hp with h | h
        · exact .inl (List.length_eq_zero_iff.1 (by rw [len_size]; exact h))
        · exact .inr (by rw [len_size]; exact h))] at hz
  exact hz

set_option maxHeartbeats 1000000 in
theorem accepts_main (p pad : ByteArray) (c m : Int) (w : World) (h1 : p.size ≤ 524288) (h2 : pad.size ≤ 524288) (c0 : 0 ≤ c) (c1 : c < 256) (_m0 : 0 ≤ m) (_m1 : m < 256) (hsh : w.ShapedOpen Tryd.prog)
    (hp : p.size = 0 ∨ wordB (at0 p.data.toList (p.size - 1)) = false) :
    Calls Tryd.prog 5 #[.string p, .int .u8 c, .int .u8 m, .string pad] w fun e w' => e = .returned (.bool true) ∧ Below w.heap.size w w' := by
  have hc := bytes4_any p pad c m w (by unfold maxLen; omega) (by unfold maxLen; omega)
  rw [decide_eq_true (by omega)] at hc
  have hkc := keyword_any c w c0 c1
  have hkl := kwOf_list c
  generalize kwOf c = K at *
  have hcv := fun wx => run_bytes_of_string (P := Tryd.prog) wx 9 26 5 K Tryd.underlying9 Tryd.underlying26 Tryd.underlying5
  have hcase : p.size = 0 ∨ ∃ b0 : p.size - 1 < p.size, wordB ((p[p.size - 1]'b0).toNat : Int) = false := by
    rcases hp with h | h
    · exact .inl h
    · by_cases hz : p.size = 0
      · exact .inl hz
      · refine .inr ⟨by omega, ?_⟩
        rw [← at0_of p _ (by omega)]
        exact h
  have hpos := kw_pos hkl
  have hlet := kw_letters hkl
  rw [len_size] at hpos hlet
  have HPO : Hid (p.size = 0 ∨ wordB (at0 p.data.toList (p.size - 1)) = false) := hp
  have HLET : Hid (∀ j, j < K.size → 97 ≤ at0 K.data.toList j ∧ at0 K.data.toList j ≤ 122) := hlet
  have HKL : Hid (isKwList K.data.toList) := hkl
  clear hp hlet hkl
  rcases hcase with hz | ⟨b0, hw⟩
  all_goals
    go_enter Tryd.func5, Tryd.ntmps5
    go_wp2_with (first | (go_at_call 11; refine hc.mono ?_; rintro e w ⟨rfl, rfl⟩) | (go_at_call 12; refine (word_any _ _).mono ?_; rintro e w ⟨rfl, rfl⟩) | (go_at_call 13; refine hkc.mono ?_; rintro e w ⟨rfl, rfl⟩))
    have hr0 := row_at w K (grownCap w K.size 0 5) 5
    have hb0 : Below w.heap.size w (w.alloc (.cells (bytesRow K (grownCap w K.size 0 5)) 5 ((bytesRow K (grownCap w K.size 0 5)).size, (bytesRow K (grownCap w K.size 0 5)).size + 1))) := (Below.refl _ w).alloc (Nat.le_refl _) _
    have hs0 : w.heap.size < (w.alloc (.cells (bytesRow K (grownCap w K.size 0 5)) 5 ((bytesRow K (grownCap w K.size 0 5)).size, (bytesRow K (grownCap w K.size 0 5)).size + 1))).heap.size := by simp
    generalize w.alloc (.cells (bytesRow K (grownCap w K.size 0 5)) 5 ((bytesRow K (grownCap w K.size 0 5)).size, (bytesRow K (grownCap w K.size 0 5)).size + 1)) = w0 at *
    generalize grownCap w K.size 0 5 = cap at *
    clear hcv hc hkc
    go_loopw [10] (fun i wr => ∃ (k : Nat) (xs : List UInt8), k ≤ K.size ∧ i = .int .i64 k ∧ xs.length = K.size ∧ (∀ j, j < K.size → lowI (at0 xs j) = at0 K.data.toList j) ∧ (∀ j, k ≤ j → j < K.size → at0 xs j = at0 K.data.toList j) ∧ bytesAt wr w.heap.size xs ∧ w.heap.size < wr.heap.size ∧ Below w.heap.size w wr) (fun i _ => K.size - (intOf i).toNat)
    case atStart =>
      refine ⟨0, K.data.toList, Nat.zero_le _, rfl, len_size K, fun j hj => ?_, fun _ _ _ => rfl, hr0, hs0, hb0.drew⟩
      have := HLET.out j hj
      unfold lowI
      rw [if_neg (by omega)]
    case round =>
      obtain ⟨k, xs, hk, rfl, hl, hlow, hrest, hat, hsz, hb⟩ := hrel
      clear hr0 hb0 hs0
      have HL : Hid (xs.length = K.size) := hl
      have HAT : Hid (bytesAt wr w.heap.size xs) := hat
      have HLOW : Hid (∀ j, j < K.size → lowI (at0 xs j) = at0 K.data.toList j) := hlow
      have HREST : Hid (∀ j, k ≤ j → j < K.size → at0 xs j = at0 K.data.toList j) := hrest
      clear hl hat hlow hrest
      by_cases hlt : k < K.size
      · obtain ⟨hcl, hfr⟩ := HAT.out k (by rw [HL.out]; exact hlt)
        have hlt5 : k < 5 := by omega
        have hx1 : 97 ≤ at0 xs k := by rw [HREST.out k (Nat.le_refl _) hlt]; exact (HLET.out k hlt).1
        have hx2 : at0 xs k ≤ 122 := by rw [HREST.out k (Nat.le_refl _) hlt]; exact (HLET.out k hlt).2
        go_wp2
        · go_roundw
          case rel =>
            have hbv : ((UInt8.ofNat (at0 xs k - 32).toNat).toNat : Int) = at0 xs k - 32 := by
              rw [UInt8.toNat_ofNat']
              omega
            have hset := HAT.out.set k (UInt8.ofNat (at0 xs k - 32).toNat) (by rw [HL.out]; exact hlt)
            rw [hbv] at hset
            refine ⟨k + 1, xs.set k (UInt8.ofNat (at0 xs k - 32).toNat), by omega, by go_num, by rw [List.length_set]; exact HL.out, fun j hj => ?_, fun j h1 h2 => ?_, hset, by simpa using hsz, hb.setCell (Nat.le_refl _) _⟩
            · rw [at0_set xs k j _ (by rw [HL.out]; exact hlt)]
              split
              · rename_i e
                subst e
                rw [hbv, ← HREST.out _ (Nat.le_refl _) hlt]
                unfold lowI
                rw [if_pos (by omega)]
                omega
              · exact HLOW.out j hj
            · rw [at0_set xs k j _ (by rw [HL.out]; exact hlt), if_neg (by omega)]
              exact HREST.out j (by omega) h2
          case measure => simp [intOf]; omega
        · go_roundw
          case rel => exact ⟨k + 1, xs, by omega, by go_num, HL.out, HLOW.out, fun j h1 h2 => HREST.out j (by omega) h2, HAT.out, hsz, hb⟩
          case measure => simp [intOf]; omega
      · obtain ⟨X, HX⟩ : ∃ X : ByteArray, X.data.toList = xs := ⟨⟨xs.toArray⟩, rfl⟩
        have hXs : X.size = K.size := by rw [← len_size, HX]; exact HL.out
        have hcv : ∀ wx : World, bytesAt wx w.heap.size xs → (convert 26 9 (.slice (some ⟨w.heap.size, 0, none⟩) K.size cap)).run Tryd.prog wx = .ok (.string X) wx := fun wx hat => by
          have h := run_convert_bytes_back (P := Tryd.prog) wx 26 9 5 ⟨w.heap.size, 0, none⟩ cap xs Tryd.underlying26 Tryd.underlying5 Tryd.underlying9 (fun j hj => by
            have := (hat j hj).1
            rw [at0_get xs j hj] at this
            rw [add0]
            exact this)
          rw [HL.out] at h
          have e : X = ⟨xs.toArray⟩ := by rw [← HX]
          rw [e]
          exact h
        have hcvA := hcv wr.drew HAT.out
        have HCV : Hid (∀ wx : World, bytesAt wx w.heap.size xs → (convert 26 9 (.slice (some ⟨w.heap.size, 0, none⟩) K.size cap)).run Tryd.prog wx = .ok (.string X) wx) := hcv
        clear hcv
        go_wp2
        have HXL : Hid (∀ j, j < K.size → lowI (at0 X.data.toList j) = at0 K.data.toList j) := by
          show ∀ j, _
          rw [HX]
          exact HLOW.out
        have hXs5 : X.size ≤ 5 := by omega
        have HXS : Hid (X.size = K.size) := hXs
        clear hXs HX
        go_region_with (first | (go_at_call 14; refine (blank_any _ _ (by omega)).mono ?_; rintro e w2 ⟨t, rfl, hts, hsp, hb2⟩; have hcvB := HCV.out w2 (bytesAt.below (w := wr.drew) HAT.out hsz hb2); have HTS : Hid (t.size = pad.size) := hts; clear hts; have hbw : Below w.heap.size w w2 := hb.drew.trans (hb2.mono (Nat.le_of_lt hsz)); have hts1 : t.size ≤ 524288 := by have := HTS.out; omega) | (go_at_call 7; refine (zz_con p X t K w2 (hsh.keptBut (hbw.frame (fun _ => False)) (fun _ h => h.elim)) h1 hXs5 hts1 HKL.out HXS.out HXL.out hsp HPO.out).mono ?_; rintro e w3 ⟨rfl, hb3⟩))
        all_goals
          go_wp2
          go_ret
          exact ⟨rfl, hbw.trans (hb3.mono hbw.size)⟩
end Go.Proofs.Qxb6601006aDoor
