import Derived.Test.Qxb6601006aDoorW3
namespace Go.Proofs.Qxb6601006aDoor
open Go.RowKit

/-- the closure of isAny: the captured word lies in the cell ⟨B, 0⟩ -/
theorem clo_any (s kw : ByteArray) (B : Nat) (w : World) (hs : s.size ≤ maxLen) (hc : w.cell? ⟨B, 0, none⟩ = some (.string s)) :
    Calls Tryd.prog 31 #[.string kw, .pointer (some ⟨B, 0, none⟩)] w fun e w' => e = .returned (.bool (foldBy lowI s.data.toList kw.data.toList)) ∧ w' = w := by
  go_enter Tryd.func31, Tryd.ntmps31
  go_wp2_with (go_at_call 32; refine (fold_any _ _ _ hs).mono ?_; rintro e w' ⟨rfl, rfl⟩)
  go_ret
  exact ⟨rfl, rfl⟩

def anyKw (s : List UInt8) (ks : List ByteArray) : Bool := ks.any fun k => foldBy lowI s k.data.toList
theorem anyKw_no {s : List UInt8} {ks : List ByteArray} (h : ∀ j, j < ks.length → foldBy lowI s (ks.getD j ByteArray.empty).data.toList = false) : anyKw s ks = false := by
  unfold anyKw
  rw [List.any_eq_false]
  intro x hx
  obtain ⟨j, hj, rfl⟩ := List.mem_iff_getElem.1 hx
  have := h j hj
  rw [List.getD_eq_getElem?_getD, List.getElem?_eq_getElem hj] at this
  simpa using this
theorem anyKw_yes {s : List UInt8} {ks : List ByteArray} (j : Nat) (hj : j < ks.length) (h : foldBy lowI s (ks.getD j ByteArray.empty).data.toList = true) : anyKw s ks = true := by
  unfold anyKw
  rw [List.any_eq_true]
  rw [List.getD_eq_getElem?_getD, List.getElem?_eq_getElem hj] at h
  exact ⟨ks[j], List.getElem_mem hj, h⟩

set_option maxHeartbeats 400000 in
/-- slices.IndexFunc over the strings ks at b, the closure's captured word at B -/
theorem idx_any (s : ByteArray) (ks : List ByteArray) (B b : Nat) (w : World) (hs : s.size ≤ maxLen) (hn : ks.length ≤ 1000) (hc : w.cell? ⟨B, 0, none⟩ = some (.string s))
    (hks : ∀ j, j < ks.length → w.cell? ⟨b, j, none⟩ = some (.string (ks.getD j ByteArray.empty))) :
    Calls Tryd.prog 37 #[.slice (some ⟨b, 0, none⟩) ks.length ks.length, .func (.func 31) #[] #[.pointer (some ⟨B, 0, none⟩)]] w fun e w' => ∃ i : Int, e = .returned (.int .i64 i) ∧ w' = w ∧ decide (0 ≤ i) = anyKw s.data.toList ks := by
  go_enter Tryd.func37, Tryd.ntmps37
  go_wp2
  go_loop [8] (fun i => ∃ k : Nat, k ≤ ks.length ∧ i = .int .i64 k ∧ ∀ j, j < k → foldBy lowI s.data.toList (ks.getD j ByteArray.empty).data.toList = false) (fun i => ks.length - (intOf i).toNat)
  case atStart => exact ⟨0, Nat.zero_le _, rfl, fun j h => absurd h (Nat.not_lt_zero _)⟩
  case round =>
    obtain ⟨k, hk, rfl, hall⟩ := hrel
    by_cases hlt : k < ks.length
    · have hcell := hks k hlt
      generalize hx : ks.getD k ByteArray.empty = x at hcell
      have HX : Hid (ks.getD k ByteArray.empty = x) := hx
      clear hx hks
      have HALL : Hid (∀ j, j < k → foldBy lowI s.data.toList (ks.getD j ByteArray.empty).data.toList = false) := hall
      clear hall
      go_wp2_with (go_at_call 31; refine (clo_any s x B _ hs hc).mono ?_; rintro e w' ⟨rfl, rfl⟩)
      · go_ret
        refine ⟨_, rfl, rfl, ?_⟩
        rw [anyKw_yes k hlt (by rw [HX.out]; assumption)]
        simp
      · go_round
        case rel =>
          refine ⟨k + 1, by omega, by go_num, fun j hj => ?_⟩
          by_cases hjk : j < k
          · exact HALL.out j hjk
          · obtain rfl : j = k := by omega
            rw [HX.out]
            assumption
        case measure => simp [intOf]; omega
    · obtain rfl : k = ks.length := by omega
      have HALL : Hid (∀ j, j < ks.length → foldBy lowI s.data.toList (ks.getD j ByteArray.empty).data.toList = false) := hall
      clear hall hks
      go_wp2
      go_ret
      refine ⟨_, rfl, rfl, ?_⟩
      rw [anyKw_no HALL.out]
      rfl

theorem cont_any (s : ByteArray) (ks : List ByteArray) (B b : Nat) (w : World) (hs : s.size ≤ maxLen) (hn : ks.length ≤ 1000) (hc : w.cell? ⟨B, 0, none⟩ = some (.string s))
    (hks : ∀ j, j < ks.length → w.cell? ⟨b, j, none⟩ = some (.string (ks.getD j ByteArray.empty))) :
    Calls Tryd.prog 30 #[.slice (some ⟨b, 0, none⟩) ks.length ks.length, .func (.func 31) #[] #[.pointer (some ⟨B, 0, none⟩)]] w fun e w' => e = .returned (.bool (anyKw s.data.toList ks)) ∧ w' = w := by
  have hcon := idx_any s ks B b w hs hn hc hks
  clear hks
  go_enter Tryd.func30, Tryd.ntmps30
  go_wp2_with (go_at_call 37; refine hcon.mono ?_; rintro e w' ⟨i, rfl, rfl, hi⟩)
  go_ret
  exact ⟨rfl, rfl⟩

theorem kw4 (s : List UInt8) : anyKw s [⟨#[98, 101, 103, 105, 110]⟩, ⟨#[116, 104, 101, 110]⟩, ⟨#[101, 108, 115, 101]⟩, ⟨#[108, 111, 111, 112]⟩] = isKw lowI s := by
  unfold anyKw isKw
  simp [Bool.or_assoc]

set_option maxHeartbeats 400000 in
theorem isAny_any (s : ByteArray) (b : Nat) (w : World) (hs : s.size ≤ maxLen)
    (h0 : w.cell? ⟨b, 0, none⟩ = some (.string ⟨#[98, 101, 103, 105, 110]⟩)) (h1 : w.cell? ⟨b, 1, none⟩ = some (.string ⟨#[116, 104, 101, 110]⟩))
    (h2 : w.cell? ⟨b, 2, none⟩ = some (.string ⟨#[101, 108, 115, 101]⟩)) (h3 : w.cell? ⟨b, 3, none⟩ = some (.string ⟨#[108, 111, 111, 112]⟩)) :
    Calls Tryd.prog 22 #[.string s, .slice (some ⟨b, 0, none⟩) 4 4] w fun e w' => e = .returned (.bool (isKw lowI s.data.toList)) ∧ Below w.heap.size w w' := by
  have hcon := fun t => cont_any s [⟨#[98, 101, 103, 105, 110]⟩, ⟨#[116, 104, 101, 110]⟩, ⟨#[101, 108, 115, 101]⟩, ⟨#[108, 111, 111, 112]⟩] w.heap.size b (w.alloc (.cells #[.string s] t)) hs (by decide) (by simp) (fun j hj => by
    match j, hj with
    | 0, _ => exact Lib.cell?_alloc_some _ h0
    | 1, _ => exact Lib.cell?_alloc_some _ h1
    | 2, _ => exact Lib.cell?_alloc_some _ h2
    | 3, _ => exact Lib.cell?_alloc_some _ h3)
  rw [kw4] at hcon
  clear h0 h1 h2 h3
  go_enter Tryd.func22, Tryd.ntmps22
  go_wp2_with (go_at_call 30; refine (hcon _).mono ?_; rintro e w' ⟨rfl, rfl⟩)
  go_ret
  exact ⟨rfl, (Below.refl _ w).alloc (Nat.le_refl _) _⟩

end Go.Proofs.Qxb6601006aDoor
