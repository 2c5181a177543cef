import Derived.Test.Qxb6601693aDoorW5
namespace Go.Proofs.Qxb6601693aDoor
open Go.RowKit

theorem pattern_any (o : Option Addr) (n c : Nat) (b : Bool) (w : World) :
    Calls Tryd.prog 12 #[.slice o n c, .bool b] w fun e w' => e = .returned (.agg #[.slice o n c, .bool b]) ∧ Below w.heap.size w w' := by
  go_enter Tryd.func12, Tryd.ntmps12
  go_wp2
  refine bodyPost_ret (v := .agg #[.slice o n c, .bool b]) (by simp [results, Tryd.results12, go_sem]) rfl ?_
  exact ⟨rfl, (Below.refl _ w).alloc (Nat.le_refl _) _⟩

set_option maxHeartbeats 1000000 in
set_option maxRecDepth 100000 in
theorem match_zero (acc name : ByteArray) (o : Option Addr) (c : Nat) (b : Bool) (w : World) :
    Calls Tryd.prog 13 #[.agg #[.slice o 0 c, .bool b], .string acc, .string name] w fun e w' => e = .returned (.bool (name.data.toList == [])) ∧ Below w.heap.size w w' := by
  have hb0 : Below w.heap.size w (w.alloc (.cells #[.slice o 0 c, .bool b] 27)) := (Below.refl _ w).alloc (Nat.le_refl _) _
  have HE : Hid ((name.data.toList == []) = name.toList.isEmpty) := by
    show _ = _
    rw [← Lib.toList_data]
    generalize name.toList = l
    cases l <;> rfl
  cases b
  · go_enter Tryd.func13, Tryd.ntmps13
    go_wp2_with (first | (go_at_call 39; refine (join_none_con _ _ _).mono ?_; rintro e w' ⟨rfl, rfl⟩))
    go_ret
    exact ⟨ret_bool HE.out.symm, hb0⟩
  · have hb1 := hb0.alloc (by simp) (.cells (madeCells #[.string ByteArray.empty] 0) 9)
    have hmk : ∀ wx, (Instr.makeSlice 22 (.int .i64 0) (.int .i64 0)).run Tryd.prog wx = .ok (.slice (some ⟨wx.heap.size, 0, none⟩) 0 0) (wx.alloc (.cells (madeCells #[.string ByteArray.empty] 0) 9)) := fun wx => run_make_row' (P := Tryd.prog) 22 9 (.string ByteArray.empty) 16 Tryd.underlying22 Tryd.info9 rfl .i64 .i64 0 (by omega) (by omega) wx
    go_enter Tryd.func13, Tryd.ntmps13
    go_wp2
    go_loop [27] (fun i => i = .int .i64 0) (fun _ => 0)
    case atStart => rfl
    case round =>
      subst hrel
      go_wp2_with (first | (go_at_call 39; refine (join_none_con _ _ _).mono ?_; rintro e w' ⟨rfl, rfl⟩))
      go_ret
      exact ⟨ret_bool HE.out.symm, hb1⟩

set_option maxHeartbeats 1000000 in
set_option maxRecDepth 100000 in
theorem match_one (acc name x : ByteArray) (B0 c : Nat) (b : Bool) (w : World) (hsh : w.ShapedOpen Tryd.prog) (hB0 : B0 < w.heap.size) (hx : w.cell? ⟨B0, 0, none⟩ = some (.string x)) (hs : x.size ≤ 65536) (ha : acc.size ≤ 4096) :
    Calls Tryd.prog 13 #[.agg #[.slice (some ⟨B0, 0, none⟩) 1 c, .bool b], .string acc, .string name] w fun e w' => e = .returned (.bool (name.data.toList == (if b then ex acc.data.toList x.data.toList else x.data.toList))) ∧ Below w.heap.size w w' := by
  have hb0 : Below w.heap.size w (w.alloc (.cells #[.slice (some ⟨B0, 0, none⟩) 1 c, .bool b] 27)) := (Below.refl _ w).alloc (Nat.le_refl _) _
  have hz0 : (w.alloc (.cells #[.slice (some ⟨B0, 0, none⟩) 1 c, .bool b] 27)).heap.size = w.heap.size + 1 := by simp
  have HE : Hid ((name.data.toList == (if b then ex acc.data.toList x.data.toList else x.data.toList)) = if b then name.toList == ex acc.data.toList x.data.toList else name.toList == x.toList) := by
    show _ = _
    rw [Lib.toList_data, Lib.toList_data]
    cases b <;> rfl
  generalize (name.data.toList == (if b then ex acc.data.toList x.data.toList else x.data.toList)) = r at *
  cases b
  · have hx0 := cell_below hb0 (a := ⟨B0, 0, none⟩) hB0 hx
    have hjo := fun c' => join_one_con B0 c' x (w.alloc (.cells #[.slice (some ⟨B0, 0, none⟩) 1 c, .bool false] 27)) hx0
    go_enter Tryd.func13, Tryd.ntmps13
    go_wp2_with (first | (go_at_call 39; refine (hjo _).mono ?_; rintro e w' ⟨rfl, rfl⟩))
    go_ret
    exact ⟨ret_bool HE.out.symm, hb0⟩
  · have hb1 := hb0.alloc (by omega) (.cells (madeCells #[.string ByteArray.empty] 1) 9)
    have hm := madeF (w.alloc (.cells #[.slice (some ⟨B0, 0, none⟩) 1 c, .bool true] 27)) 1 (fun _ => ⟨(ex acc.data.toList x.data.toList).toArray⟩)
    have hz1 : ((w.alloc (.cells #[.slice (some ⟨B0, 0, none⟩) 1 c, .bool true] 27)).alloc (.cells (madeCells #[.string ByteArray.empty] 1) 9)).heap.size = w.heap.size + 1 + 1 := by simp
    rw [hz0] at hm
    have hmk : ∀ wx, (Instr.makeSlice 22 (.int .i64 1) (.int .i64 1)).run Tryd.prog wx = .ok (.slice (some ⟨wx.heap.size, 0, none⟩) 1 1) (wx.alloc (.cells (madeCells #[.string ByteArray.empty] 1) 9)) := fun wx => run_make_row' (P := Tryd.prog) 22 9 (.string ByteArray.empty) 16 Tryd.underlying22 Tryd.info9 rfl .i64 .i64 1 (by omega) (by omega) wx
    have HSH : Hid (w.ShapedOpen Tryd.prog) := hsh
    clear hsh
    have hp0 : ((w.alloc (.cells #[.slice (some ⟨B0, 0, none⟩) 1 c, .bool true] 27)).alloc (.cells (madeCells #[.string ByteArray.empty] 1) 9)).cell? ⟨w.heap.size, 0, none⟩ = some (.slice (some ⟨B0, 0, none⟩) 1 c) := by
      rw [World.cell?_of_block (w := w.alloc (.cells #[.slice (some ⟨B0, 0, none⟩) 1 c, .bool true] 27)) (((Below.refl _ _).alloc (Nat.le_refl _) _).block w.heap.size (by rw [hz0]; omega))]
      simp
    clear hb0
    go_enter Tryd.func13, Tryd.ntmps13
    go_wp2
    clear hp0 hz0 hmk
    generalize (w.alloc (.cells #[.slice (some ⟨B0, 0, none⟩) 1 c, .bool true] 27)).alloc (.cells (madeCells #[.string ByteArray.empty] 1) 9) = w1 at *
    have hBB : w.heap.size ≤ w.heap.size + 1 := Nat.le_succ _
    have hBz : w.heap.size + 1 < w1.heap.size := by omega
    clear hz1
    generalize w.heap.size + 1 = B2 at *
    go_loopw [27] (fun i wr => ∃ k : Nat, k ≤ 1 ∧ i = .int .i64 k ∧ strsF wr B2 1 (fun _ => ⟨(ex acc.data.toList x.data.toList).toArray⟩) k ∧ B2 < wr.heap.size ∧ Below w.heap.size w wr) (fun i _ => 1 - (intOf i).toNat)
    case atStart => exact ⟨0, Nat.zero_le _, rfl, hm, hBz, hb1⟩
    case round =>
      obtain ⟨k, hk, rfl, hst, hz, hb⟩ := hrel
      clear hm hb1 hBz
      have HST : Hid (strsF wr B2 1 (fun _ => ⟨(ex acc.data.toList x.data.toList).toArray⟩) k) := hst
      clear hst
      by_cases hlt : k < 1
      · obtain rfl : k = 0 := by omega
        have hck := cell_below hb (a := ⟨B0, 0, none⟩) hB0 hx
        have hrep := replace_con x acc wr (shaped_below HSH.out hb) hs ha
        go_wp2_with (first | (go_at_call 38; refine hrep.mono ?_; rintro e w2 ⟨rfl, hb2⟩; obtain ⟨z, hcz, hfz, _⟩ := (HST.out.below hz hb2) 0 hlt))
        go_roundw
        case rel =>
          have hbs := hb.size
          have := hb2.size
          exact ⟨1, by omega, by go_num, (HST.out.below hz hb2).set _ rfl, by simp only [World.size_setCell]; omega, (below_after hb hbs hb2).setCell hBB _⟩
        case measure => simp [intOf]
      · obtain rfl : k = 1 := by omega
        have hjo := fun c' => join_one_con B2 c' _ wr (HST.out.cell 0 (by omega))
        go_wp2_with (first | (go_at_call 39; refine (hjo _).mono ?_; rintro e w' ⟨rfl, rfl⟩))
        go_ret
        refine ⟨ret_bool ?_, hb⟩
        rw [HE.out]
        first | rfl | (rw [Lib.toList_data]; rfl) | simp

/-- the literals, expanded where the pattern uses the account -/
def expL (b : Bool) (acc : ByteArray) (ss : List ByteArray) : List ByteArray := ss.map fun x => if b then ⟨(ex acc.data.toList x.data.toList).toArray⟩ else x
theorem expL_length (b : Bool) (acc : ByteArray) (ss : List ByteArray) : (expL b acc ss).length = ss.length := by unfold expL; simp
theorem expL_getD (b : Bool) (acc : ByteArray) (ss : List ByteArray) (i : Nat) (h : i < ss.length) : (expL b acc ss).getD i ByteArray.empty = if b then ⟨(ex acc.data.toList (ss.getD i ByteArray.empty).data.toList).toArray⟩ else ss.getD i ByteArray.empty := by
  unfold expL
  rw [List.getD_eq_getElem?_getD, List.getD_eq_getElem?_getD, List.getElem?_map, List.getElem?_eq_getElem h]
  rfl
theorem expL_size (b : Bool) (acc : ByteArray) (ss : List ByteArray) (ha : acc.size ≤ 4096) (hs : ∀ i, i < ss.length → (ss.getD i ByteArray.empty).size ≤ 65536) (i : Nat) (h : i < (expL b acc ss).length) : ((expL b acc ss).getD i ByteArray.empty).size ≤ 536870912 := by
  rw [expL_length] at h
  rw [expL_getD b acc ss i h]
  have h1 := hs i h
  cases b
  · show (ss.getD i ByteArray.empty).size ≤ _
    omega
  · show (ex acc.data.toList (ss.getD i ByteArray.empty).data.toList).toArray.size ≤ _
    have h2 := ex_length acc.data.toList _ (ss.getD i ByteArray.empty).data.toList (Nat.le_refl _)
    rw [len_size, len_size] at h2
    have h3 : (ss.getD i ByteArray.empty).size * (acc.size + 1) ≤ 65536 * 4097 := Nat.mul_le_mul h1 (by omega)
    rw [List.size_toArray]
    omega

theorem match_any (acc name : ByteArray) (v : Value) (ss : List ByteArray) (b : Bool) (w : World) (hsh : w.ShapedOpen Tryd.prog) (h : OwnAt w v ss) (hf : Fits ss acc name) :
    Calls Tryd.prog 13 #[.agg #[v, .bool b], .string acc, .string name] w fun e w' => e = .returned (.bool (matchL name.data.toList (segsL (expL b acc ss)))) ∧ Below w.heap.size w w' := by
  obtain ⟨hf1, hf2, hf3, hf4⟩ := hf
  have e0 : ss.length = 0 → matchL name.data.toList (segsL (expL b acc ss)) = (name.data.toList == []) := fun h0 => by
    rw [List.length_eq_zero_iff.1 h0]
    rfl
  rcases h with ⟨rfl, rfl⟩ | ⟨B0, c0, rfl, hMc, _, hB0, hc⟩
  · rw [e0 rfl]
    exact match_zero acc name none 0 b w
  · by_cases h0 : ss.length = 0
    · rw [e0 h0, h0]
      exact match_zero acc name _ c0 b w
    · by_cases h1 : ss.length = 1
      · have em : matchL name.data.toList (segsL (expL b acc ss)) = (name.data.toList == (if b then ex acc.data.toList (ss.getD 0 ByteArray.empty).data.toList else (ss.getD 0 ByteArray.empty).data.toList)) := by
          unfold matchL
          rw [segsL_length, expL_length, if_pos (by omega), segsL_getD, expL_getD _ _ _ _ (by omega)]
          cases b <;> rfl
        rw [em, h1]
        exact match_one acc name _ B0 c0 b w hsh hB0 (hc 0 (by omega)) (hf4 0 (by omega)) hf2
      · have em : matchL name.data.toList (segsL (expL b acc ss)) = (Lib.hasPrefix name.data.toList ((expL b acc ss).getD 0 ByteArray.empty).data.toList && fin name.data.toList ((expL b acc ss).getD (ss.length - 1) ByteArray.empty).data.toList (gr name.data.toList (segsL (expL b acc ss)) (ss.length - 2))) := by
          unfold matchL
          rw [segsL_length, expL_length, if_neg (by omega), segsL_getD, segsL_getD]
        rw [em]
        have hsz := expL_size b acc ss hf2 hf4
        rw [expL_length] at hsz
        cases b
        · refine match_plain acc name ss.length (fun i => (expL false acc ss).getD i ByteArray.empty) _ (segsL_getD _) B0 c0 w hsh hB0 (fun j hj => ?_) hMc hf3 hf1 hsz (by omega)
          rw [hc j hj, expL_getD _ _ _ _ hj]
          rfl
        · obtain ⟨m1, hm1⟩ : ∃ m1, ss.length = m1 + 2 := ⟨ss.length - 2, by omega⟩
          have hX := fun j hj => expL_getD true acc ss j hj
          rw [hm1] at hc hf1 hf4 hsz hX ⊢
          exact match_acc acc name m1 (fun i => ss.getD i ByteArray.empty) (fun i => (expL true acc ss).getD i ByteArray.empty) _ (segsL_getD _) B0 c0 w hsh hB0 hc hf3 hf2 hf1 hf4 hsz hX
end Go.Proofs.Qxb6601693aDoor
