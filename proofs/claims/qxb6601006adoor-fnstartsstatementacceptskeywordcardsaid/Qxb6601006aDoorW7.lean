import Derived.Test.Qxb6601006aDoorW6
import Derived.Deep.OwnRows
import Derived.Laws.IdiomStrings
namespace Go.Proofs.Qxb6601006aDoor
open Go.RowKit

set_option maxHeartbeats 400000 in
theorem spaceOf_any (c : Int) (w : World) (h0 : 0 ≤ c) (h1 : c < 256) :
    Calls Tryd.prog 17 #[.int .u8 c] w fun e w' => ∃ b : UInt8, e = .returned (.int .u8 (b.toNat : Int)) ∧ spaceB (b.toNat : Int) = true ∧ w' = w := by
  go_enter Tryd.func17, Tryd.ntmps17
  go_wp2
  · go_ret; exact ⟨32, rfl, rfl, rfl⟩
  · go_ret; exact ⟨9, rfl, rfl, rfl⟩
  · go_ret; exact ⟨10, rfl, rfl, rfl⟩
  · go_ret; exact ⟨13, rfl, rfl, rfl⟩
  · go_ret; exact ⟨12, rfl, rfl, rfl⟩
  · go_ret; exact ⟨11, rfl, rfl, rfl⟩

/-- the keyword that 'which' picks -/
def kwOf (c : Int) : ByteArray := if c % 4 = 0 then ⟨#[98, 101, 103, 105, 110]⟩ else if c % 4 = 1 then ⟨#[116, 104, 101, 110]⟩ else if c % 4 = 2 then ⟨#[101, 108, 115, 101]⟩ else ⟨#[108, 111, 111, 112]⟩
theorem kwOf_0 (c : Int) (h : (c % 4 == 0) = true) : (⟨#[98, 101, 103, 105, 110]⟩ : ByteArray) = kwOf c := by
  unfold kwOf; rw [if_pos (by simpa using h)]
theorem kwOf_1 (c : Int) (h : (c % 4 == 0) = false) (h1 : (c % 4 == 1) = true) : (⟨#[116, 104, 101, 110]⟩ : ByteArray) = kwOf c := by
  unfold kwOf; rw [if_neg (by simpa using h), if_pos (by simpa using h1)]
theorem kwOf_2 (c : Int) (h : (c % 4 == 0) = false) (h1 : (c % 4 == 1) = false) (h2 : (c % 4 == 2) = true) : (⟨#[101, 108, 115, 101]⟩ : ByteArray) = kwOf c := by
  unfold kwOf; rw [if_neg (by simpa using h), if_neg (by simpa using h1), if_pos (by simpa using h2)]
theorem kwOf_3 (c : Int) (h : (c % 4 == 0) = false) (h1 : (c % 4 == 1) = false) (h2 : (c % 4 == 2) = false) : (⟨#[108, 111, 111, 112]⟩ : ByteArray) = kwOf c := by
  unfold kwOf; rw [if_neg (by simpa using h), if_neg (by simpa using h1), if_neg (by simpa using h2)]
theorem ret_str {a b : ByteArray} (h : a = b) : Ending.returned (.string a) = .returned (.string b) := by rw [h]

set_option maxHeartbeats 400000 in
theorem keyword_any (c : Int) (w : World) (h0 : 0 ≤ c) (h1 : c < 256) :
    Calls Tryd.prog 13 #[.int .u8 c] w fun e w' => e = .returned (.string (kwOf c)) ∧ w' = w := by
  go_enter Tryd.func13, Tryd.ntmps13
  go_wp2
  · go_ret; exact ⟨ret_str (kwOf_0 c ‹_›), rfl⟩
  · go_ret; exact ⟨ret_str (kwOf_1 c ‹_› ‹_›), rfl⟩
  · go_ret; exact ⟨ret_str (kwOf_2 c ‹_› ‹_› ‹_›), rfl⟩
  · go_ret; exact ⟨ret_str (kwOf_3 c ‹_› ‹_› ‹_›), rfl⟩

theorem add0 (B j : Nat) : (⟨B, 0, none⟩ : Addr).add j = ⟨B, j, none⟩ := by unfold Addr.add; split <;> simp_all
/-- the bytes xs lie at the head of block B and can be written -/
def bytesAt (w : World) (B : Nat) (xs : List UInt8) : Prop := ∀ j, j < xs.length → w.cell? ⟨B, j, none⟩ = some (.int .u8 (at0 xs j)) ∧ w.frozen? ⟨B, j, none⟩ = false

theorem at0_set (xs : List UInt8) (k j : Nat) (b : UInt8) (hk : k < xs.length) : at0 (xs.set k b) j = if j = k then (b.toNat : Int) else at0 xs j := by
  unfold at0
  rw [List.getD_eq_getElem?_getD, List.getD_eq_getElem?_getD, List.getElem?_set]
  by_cases h : k = j
  · subst h; simp [hk]
  · rw [if_neg h, if_neg (fun e => h e.symm)]
theorem bytesAt.set {w : World} {B : Nat} {xs : List UInt8} (h : bytesAt w B xs) (k : Nat) (b : UInt8) (hk : k < xs.length) : bytesAt (w.setCell ⟨B, k, none⟩ (.int .u8 (b.toNat : Int))) B (xs.set k b) := by
  intro j hj
  rw [List.length_set] at hj
  obtain ⟨h1, h2⟩ := h j hj
  refine ⟨?_, by rw [World.frozen?_setCell]; exact h2⟩
  rw [at0_set xs k j b hk]
  by_cases e : j = k
  · subst e
    rw [if_pos rfl]
    exact World.cell?_setCell_same _ _ _ h1
  · rw [if_neg e, World.cell?_setCell_other _ _ _ _ (by intro h; cases h; exact e rfl)]
    exact h1

theorem Tryd.info5 : (Tryd.prog.info? 5).map (fun i => (i.zero, i.size, i.bytes)) = some (some (.int .u8 0), 1, 1) := by kernel_rfl

theorem made_at (w : World) (n : Nat) : bytesAt (w.alloc (.cells (madeCells #[.int .u8 0] n) 5)) w.heap.size (List.replicate n 0) := by
  intro j hj
  rw [List.length_replicate] at hj
  have e : at0 (List.replicate n 0) j = 0 := by
    unfold at0
    rw [List.getD_eq_getElem?_getD, List.getElem?_replicate_of_lt hj]
    rfl
  rw [e]
  refine ⟨?_, by simp⟩
  rw [World.cell?_alloc_at _ _ _ _ rfl]
  unfold madeCells
  simp [hj, Nat.mod_one]

set_option maxHeartbeats 400000 in
theorem blank_any (s : ByteArray) (w : World) (hs : s.size ≤ 1048576) :
    Calls Tryd.prog 14 #[.string s] w fun e w' => ∃ t : ByteArray, e = .returned (.string t) ∧ t.size = s.size ∧ (∀ j, j < t.size → spaceB (at0 t.data.toList j) = true) ∧ Below w.heap.size w w' := by
  have hmk := fun wx => run_make_row' (P := Tryd.prog) 26 5 (.int .u8 0) 1 Tryd.underlying26 Tryd.info5 rfl .i64 .i64 s.size (by omega) (by omega) wx
  have hm := made_at w s.size
  have hb0 : Below w.heap.size w (w.alloc (.cells (madeCells #[.int .u8 0] s.size) 5)) := (Below.refl _ w).alloc (Nat.le_refl _) _
  have hz0 : w.heap.size < (w.alloc (.cells (madeCells #[.int .u8 0] s.size) 5)).heap.size := by simp
  go_enter Tryd.func14, Tryd.ntmps14
  go_wp2
  generalize w.alloc (.cells (madeCells #[.int .u8 0] s.size) 5) = w0 at *
  clear hmk
  go_loopw [4] (fun i wr => ∃ (k : Nat) (xs : List UInt8), k ≤ s.size ∧ i = .int .i64 k ∧ xs.length = s.size ∧ (∀ j, j < k → spaceB (at0 xs j) = true) ∧ bytesAt wr w.heap.size xs ∧ w.heap.size < wr.heap.size ∧ Below w.heap.size w wr) (fun i _ => s.size - (intOf i).toNat)
  case atStart => exact ⟨0, _, Nat.zero_le _, rfl, List.length_replicate, fun j h => absurd h (Nat.not_lt_zero _), hm, hz0, hb0⟩
  case round =>
    obtain ⟨k, xs, hk, rfl, hl, hsp, hat, hz, hb⟩ := hrel
    clear hm hz0 hb0
    by_cases hlt : k < s.size
    · have c1 : s[k].toNat < 256 := s[k].toNat_lt
      obtain ⟨hc, hf⟩ := hat k (by omega)
      have HAT : Hid (bytesAt wr w.heap.size xs) := hat
      have HL : Hid (xs.length = s.size) := hl
      clear hat hl
      go_wp2_with (go_at_call 17; refine (spaceOf_any _ _ (by omega) (by omega)).mono ?_; rintro e w' ⟨b, rfl, hbs, rfl⟩)
      go_roundw
      case rel =>
        refine ⟨k + 1, xs.set k b, by omega, by go_num, by rw [List.length_set]; exact HL.out, fun j hj => ?_, HAT.out.set k b (by rw [HL.out]; exact hlt), by simpa using hz, hb.setCell (Nat.le_refl _) _⟩
        rw [at0_set xs k j b (by rw [HL.out]; exact hlt)]
        split
        · exact hbs
        · exact hsp j (by omega)
      case measure => simp [intOf]; omega
    · obtain rfl : k = s.size := by omega
      have hcv := run_convert_bytes_back (P := Tryd.prog) wr 26 9 5 ⟨w.heap.size, 0, none⟩ s.size xs Tryd.underlying26 Tryd.underlying5 Tryd.underlying9 (fun j hj => by
        have := (hat j hj).1
        rw [at0_get xs j hj] at this
        rw [add0]
        exact this)
      rw [hl] at hcv
      have HL : Hid (xs.length = s.size) := hl
      clear hat hl
      go_wp2
      go_ret
      refine ⟨_, rfl, ?_, ?_, hb⟩
      · show xs.toArray.size = _
        simpa using HL.out
      · intro j hj
        exact hsp j (by have := HL.out; have h2 : (⟨xs.toArray⟩ : ByteArray).size = xs.length := by show xs.toArray.size = _; simp
                        omega)

end Go.Proofs.Qxb6601006aDoor
