import Derived.Test.Qxb6601856aDoorW1
namespace Go.Proofs.Qxb6601856aDoor
open Go.RowKit

set_option maxHeartbeats 1000000 in
theorem sameFold_any (p : Option Addr) (n c : Nat) (bs : List UInt8) (s : ByteArray) (w : World) (hb : bs.length = n) (h : Lib.BytesAt w p n bs) (hn : n ≤ 1048576) (hs : s.size ≤ 1048576) :
    Calls Tryd.prog 14 #[.slice p n c, .string s] w fun e w' => e = .returned (.bool (foldB bs s.data.toList)) ∧ w' = w := by
  have HB : Hid (Lib.BytesAt w p n bs) := h
  have HBL : Hid (bs.length = n) := hb
  clear h hb
  by_cases hl : n = s.size
  · subst hl
    go_enter Tryd.func14, Tryd.ntmps14
    go_wp2
    go_loop [5] (fun i => ∃ (k : Nat), k ≤ s.size ∧ i = .int .i64 k ∧ ∀ j, j < k → lowI (at0 bs j) = lowI (at0 s.data.toList j)) (fun i => s.size - (intOf i).toNat)
    case atStart => exact ⟨0, Nat.zero_le _, rfl, fun j h => absurd h (Nat.not_lt_zero _)⟩
    case round =>
      obtain ⟨k, hk, rfl, hall⟩ := hrel
      have HALL : Hid (∀ j, j < k → lowI (at0 bs j) = lowI (at0 s.data.toList j)) := hall
      clear hall
      by_cases hlt : k < s.size
      · obtain ⟨b, o, rfl, hc⟩ := bytes_cell HB.out hlt
        have HA : Hid (at0 s.data.toList k = (s[k].toNat : Int)) := at0_of s k hlt
        have c1 : s[k].toNat < 256 := s[k].toNat_lt
        have g0 := at0_nonneg bs k
        have g1 := at0_lt bs k
        obtain ⟨x, HX⟩ : ∃ x, Hid (at0 bs k = x) := ⟨_, rfl⟩
        rw [HX.out] at hc g0 g1
        by_cases hne : x = (s[k].toNat : Int)
        · have hne' : (x == (s[k].toNat : Int)) = true := beq_iff_eq.2 hne
          have HNE : Hid (x = (s[k].toNat : Int)) := hne
          clear hne
          go_wp2
          go_round
          case rel =>
            refine ⟨k + 1, by omega, by go_num, fun j hj => ?_⟩
            by_cases e : j = k
            · rw [e, HX.out, HA.out, HNE.out]
            · exact HALL.out j (by omega)
          case measure => simp [intOf]; omega
        · have hne' : (x == (s[k].toNat : Int)) = false := beq_eq_false_iff_ne.2 hne
          by_cases h1 : 65 ≤ x
          · by_cases h2 : x ≤ 90
            · cases hx : (bits .xor .u8 x 32 == (s[k].toNat : Int))
              · go_wp2
                go_ret
                refine ⟨ret_bool (foldB_no (k := k) (by rw [HBL.out]; exact hlt) ?_).symm, rfl⟩
                rw [HX.out, HA.out, fold_iff _ _ g0 g1]
                rintro (h | ⟨_, h⟩)
                · exact hne h
                · unfold xorI at h
                  rw [h] at hx
                  simp at hx
              · have HXE : Hid (xorI x = (s[k].toNat : Int)) := by unfold xorI; exact beq_iff_eq.1 hx
                go_wp2
                go_round
                case rel =>
                  refine ⟨k + 1, by omega, by go_num, fun j hj => ?_⟩
                  by_cases e : j = k
                  · rw [e, HX.out, HA.out, fold_iff _ _ g0 g1]
                    exact .inr ⟨by omega, HXE.out⟩
                  · exact HALL.out j (by omega)
                case measure => simp [intOf]; omega
            · by_cases h3 : 97 ≤ x
              · by_cases h4 : x ≤ 122
                · cases hx : (bits .xor .u8 x 32 == (s[k].toNat : Int))
                  · go_wp2
                    go_ret
                    refine ⟨ret_bool (foldB_no (k := k) (by rw [HBL.out]; exact hlt) ?_).symm, rfl⟩
                    rw [HX.out, HA.out, fold_iff _ _ g0 g1]
                    rintro (h | ⟨_, h⟩)
                    · exact hne h
                    · unfold xorI at h
                      rw [h] at hx
                      simp at hx
                  · have HXE : Hid (xorI x = (s[k].toNat : Int)) := by unfold xorI; exact beq_iff_eq.1 hx
                    go_wp2
                    go_round
                    case rel =>
                      refine ⟨k + 1, by omega, by go_num, fun j hj => ?_⟩
                      by_cases e : j = k
                      · rw [e, HX.out, HA.out, fold_iff _ _ g0 g1]
                        exact .inr ⟨by omega, HXE.out⟩
                      · exact HALL.out j (by omega)
                    case measure => simp [intOf]; omega
                · go_wp2
                  go_ret
                  refine ⟨ret_bool (foldB_no (k := k) (by rw [HBL.out]; exact hlt) ?_).symm, rfl⟩
                  rw [HX.out, HA.out, fold_iff _ _ g0 g1]
                  rintro (h | ⟨h, _⟩)
                  · exact hne h
                  · omega
              · go_wp2
                go_ret
                refine ⟨ret_bool (foldB_no (k := k) (by rw [HBL.out]; exact hlt) ?_).symm, rfl⟩
                rw [HX.out, HA.out, fold_iff _ _ g0 g1]
                rintro (h | ⟨h, _⟩)
                · exact hne h
                · omega
          · have h3 : ¬ 97 ≤ x := by omega
            go_wp2
            go_ret
            refine ⟨ret_bool (foldB_no (k := k) (by rw [HBL.out]; exact hlt) ?_).symm, rfl⟩
            rw [HX.out, HA.out, fold_iff _ _ g0 g1]
            rintro (h | ⟨h, _⟩)
            · exact hne h
            · omega
      · obtain rfl : k = s.size := by omega
        go_wp2
        go_ret
        exact ⟨ret_bool (foldB_yes (by rw [HBL.out, len_size]) (by rw [HBL.out]; exact HALL.out)).symm, rfl⟩
  · have hl' : ((n : Int) != (s.size : Int)) = true := by simp; omega
    go_enter Tryd.func14, Tryd.ntmps14
    go_wp2
    go_ret
    exact ⟨ret_bool (foldB_len (by rw [HBL.out, len_size]; exact hl)).symm, rfl⟩

theorem bytes_any (p : Option Addr) (n c : Nat) (s : ByteArray) (w : World) (hn : n ≤ maxLen) (hs : s.size ≤ maxLen) :
    Calls Tryd.prog 6 #[.slice p n c, .string s] w fun e w' => e = .returned (.bool (decide (n + s.size ≤ 1048576))) ∧ w' = w := by
  unfold maxLen at hn hs
  by_cases h1 : n ≤ 1048576
  · by_cases h2 : s.size ≤ 1048576
    · by_cases h3 : n + s.size ≤ 1048576
      · go_enter Tryd.func6, Tryd.ntmps6
        go_wp2
        go_ret
        exact ⟨ret_bool (by simp [h3]), rfl⟩
      · go_enter Tryd.func6, Tryd.ntmps6
        go_wp2
        go_ret
        exact ⟨ret_bool (by simp [h3]), rfl⟩
    · have h3 : ¬ n + s.size ≤ 1048576 := by omega
      go_enter Tryd.func6, Tryd.ntmps6
      go_wp2
      go_ret
      exact ⟨ret_bool (by simp [h3]), rfl⟩
  · have h3 : ¬ n + s.size ≤ 1048576 := by omega
    go_enter Tryd.func6, Tryd.ntmps6
    go_wp2
    go_ret
    exact ⟨ret_bool (by simp [h3]), rfl⟩

/- ---- the copy ---- -/
/-- block B holds n bytes, the first k of which are those of bs -/
def bytesF (w : World) (B n : Nat) (bs : List UInt8) (k : Nat) : Prop := ∀ j, j < n → ∃ x, w.cell? ⟨B, j, none⟩ = some (.int .u8 x) ∧ w.frozen? ⟨B, j, none⟩ = false ∧ (j < k → x = at0 bs j)
theorem bytesF.set {w : World} {B n k : Nat} {bs : List UInt8} (h : bytesF w B n bs k) (x : Int) (hx : x = at0 bs k) : bytesF (w.setCell ⟨B, k, none⟩ (.int .u8 x)) B n bs (k + 1) := by
  intro j hj
  obtain ⟨y, h1, h2, h3⟩ := h j hj
  by_cases e : j = k
  · subst e
    exact ⟨x, World.cell?_setCell_same _ _ _ h1, by rw [World.frozen?_setCell]; exact h2, fun _ => hx⟩
  · exact ⟨y, by rw [World.cell?_setCell_other _ _ _ _ (by intro h; cases h; exact e rfl)]; exact h1, by rw [World.frozen?_setCell]; exact h2, fun h => h3 (by omega)⟩
theorem madeF (w : World) (n : Nat) (bs : List UInt8) : bytesF (w.alloc (.cells (madeCells #[.int .u8 0] n) 5)) w.heap.size n bs 0 := by
  intro j hj
  refine ⟨0, ?_, by simp, fun h => absurd h (Nat.not_lt_zero _)⟩
  rw [World.cell?_alloc_at _ _ _ _ rfl]
  unfold madeCells
  simp [hj, Nat.mod_one]
theorem Tryd.info5 : (Tryd.prog.info? 5).map (fun i => (i.zero, i.size, i.bytes)) = some (some (.int .u8 0), 1, 1) := by kernel_rfl
theorem cell_below {B : Nat} {w w' : World} (h : Below B w w') {a : Addr} {v : Value} (hg : a.block < B) (hc : w.cell? a = some v) : w'.cell? a = some v :=
  (World.cell?_of_block (h.block a.block hg)).trans hc

/-- the argument: v holds the bytes bs -/
def ArgAt (w : World) (v : Value) (bs : List UInt8) : Prop :=
  (v = .slice none 0 0 ∧ bs = []) ∨ ∃ a c, v = .slice (some a) bs.length c ∧ ∀ i, i < bs.length → w.cell? (a.add i) = some (.int .u8 (at0 bs i))
/-- what the copy is -/
def OwnAt (w : World) (v : Value) (bs : List UInt8) : Prop := (v = .slice none 0 0 ∧ bs = []) ∨ ∃ B, v = .slice (some ⟨B, 0, none⟩) bs.length bs.length ∧ B < w.heap.size ∧ ∀ j, j < bs.length → w.cell? ⟨B, j, none⟩ = some (.int .u8 (at0 bs j))

set_option maxHeartbeats 1000000 in
set_option maxRecDepth 100000 in
theorem clone_any (v : Value) (bs : List UInt8) (w : World) (h : ArgAt w v bs) (hl : bs.length ≤ 524288) :
    Calls Tryd.prog 7 #[v] w fun e w' => ∃ v', e = .returned v' ∧ OwnAt w' v' bs ∧ Below w.heap.size w w' := by
  have hnil := fun wx a n c => Lib.run_eql_slice_nil (P := Tryd.prog) wx 22 5 a n c 0 0 Tryd.underlying22
  rcases h with ⟨rfl, rfl⟩ | ⟨a, c, rfl, hc⟩
  · go_enter Tryd.func7, Tryd.ntmps7
    go_wp2
    go_ret
    exact ⟨.slice none 0 0, rfl, .inl ⟨rfl, rfl⟩, Below.refl _ _⟩
  · have HC : Hid (∀ i, i < bs.length → w.cell? (a.add i) = some (.int .u8 (at0 bs i))) := hc
    clear hc
    obtain ⟨n, HN⟩ : ∃ n, Hid (bs.length = n) := ⟨_, rfl⟩
    rw [HN.out] at HC hl ⊢
    have hmk := fun wx => run_make_row' (P := Tryd.prog) 22 5 (.int .u8 0) 1 Tryd.underlying22 Tryd.info5 rfl .i64 .i64 n (by omega) (by omega) wx
    have hm := madeF w n bs
    have hb0 : Below w.heap.size w (w.alloc (.cells (madeCells #[.int .u8 0] n) 5)) := (Below.refl _ w).alloc (Nat.le_refl _) _
    have hz0 : w.heap.size < (w.alloc (.cells (madeCells #[.int .u8 0] n) 5)).heap.size := by simp
    go_enter Tryd.func7, Tryd.ntmps7
    go_wp2
    generalize w.alloc (.cells (madeCells #[.int .u8 0] n) 5) = w0 at *
    clear hmk
    go_loopw [4] (fun i wr => ∃ k : Nat, k ≤ n ∧ i = .int .i64 k ∧ bytesF wr w.heap.size n bs k ∧ w.heap.size < wr.heap.size ∧ Below w.heap.size w wr) (fun i _ => n - (intOf i).toNat)
    case atStart => exact ⟨0, Nat.zero_le _, rfl, hm, hz0, hb0⟩
    case round =>
      obtain ⟨k, hk, rfl, hat, hz, hb⟩ := hrel
      clear hm hz0 hb0
      have HAT : Hid (bytesF wr w.heap.size n bs k) := hat
      clear hat
      by_cases hlt : k < n
      · have hcell := HC.out k hlt
        have hblk : (a.add k).block < w.heap.size := World.block_lt_of_cell? _ _ hcell
        replace hcell := cell_below hb hblk hcell
        obtain ⟨x, hx, hf, _⟩ := HAT.out k hlt
        obtain ⟨y, HY⟩ : ∃ y, Hid (y = at0 bs k) := ⟨_, rfl⟩
        rw [← HY.out] at hcell
        go_wp2
        go_roundw
        case rel => exact ⟨k + 1, by omega, by go_num, HAT.out.set _ HY.out, by simpa using hz, hb.setCell (Nat.le_refl _) _⟩
        case measure => simp [intOf]; omega
      · obtain rfl : k = n := by omega
        go_wp2
        go_ret
        refine ⟨.slice (some ⟨w.heap.size, 0, none⟩) k k, rfl, .inr ⟨w.heap.size, by rw [HN.out], hz, fun j hj => ?_⟩, hb⟩
        rw [HN.out] at hj
        obtain ⟨x, hx, _, he⟩ := HAT.out j hj
        rw [hx, he hj]
end Go.Proofs.Qxb6601856aDoor
