import Derived.Test.Qxb6601693aDoorW2
namespace Go.Proofs.Qxb6601693aDoor
open Go.RowKit

/- ---- zzExpand ---- -/
theorem ph_at (s : ByteArray) (k : Nat) : ph.isPrefixOf (s.data.toList.drop k) = (decide (k + 10 ≤ s.size) && ((s.extract k (k + 10)).toList == [36, 123, 97, 99, 99, 111, 117, 110, 116, 125])) := by
  rw [Lib.toList_data, Lib.extract_data, Nat.add_sub_cancel_left, Bool.eq_iff_iff, List.isPrefixOf_iff_prefix, List.prefix_iff_eq_take]
  simp only [Bool.and_eq_true, decide_eq_true_eq, beq_iff_eq]
  have e10 : ph.length = 10 := rfl
  rw [e10]
  constructor
  · intro h
    have := congrArg List.length h
    rw [List.length_take, List.length_drop, len_size, e10] at this
    exact ⟨by omega, h.symm⟩
  · exact fun h => h.2.symm
theorem drop_cons (s : ByteArray) (k : Nat) (h : k < s.size) : s.data.toList.drop k = s[k] :: s.data.toList.drop (k + 1) := List.drop_eq_getElem_cons (by rw [len_size]; exact h)

set_option maxHeartbeats 1000000 in
set_option maxRecDepth 100000 in
theorem expand_any (s acc : ByteArray) (use : Bool) (w : World) (hs : s.size ≤ 65536) (ha : acc.size ≤ 4096) :
    Calls Tryd.prog 11 #[.string s, .string acc, .bool use] w fun e w' => ∃ r : ByteArray, e = .returned (.string r) ∧ r.data.toList = (if use then ex acc.data.toList s.data.toList else s.data.toList) ∧ Below w.heap.size w w' := by
  obtain ⟨i0, hi, hz0, hz1, hz2⟩ := info_parts Tryd.info5
  cases use
  · go_enter Tryd.func11, Tryd.ntmps11
    go_wp2
    go_ret
    exact ⟨s, rfl, rfl, Below.refl _ _⟩
  · go_enter Tryd.func11, Tryd.ntmps11
    go_wp2
    go_loopw [7, 8] (fun v i wr => ∃ (k : Nat) (out : List UInt8), k ≤ s.size ∧ i = .int .i64 k ∧ wr.ownsRow w.heap.size 5 1 v out.length (Lib.byteCells out) ∧ out ++ ex acc.data.toList (s.data.toList.drop k) = ex acc.data.toList s.data.toList ∧ out.length ≤ k * (acc.size + 1) ∧ Below w.heap.size w wr) (fun _ i _ => s.size - (intOf i).toNat)
    case atStart => exact ⟨0, [], Nat.zero_le _, rfl, World.ownsRow_nil _ _ _ _, rfl, Nat.zero_le _, Below.refl _ _⟩
    case round =>
      obtain ⟨k, out, hk, rfl, hown, hout, hlen, hb⟩ := hrel
      have HOUT : Hid (out ++ ex acc.data.toList (s.data.toList.drop k) = ex acc.data.toList s.data.toList) := hout
      have hbs := hb.size
      have hkm : k * (acc.size + 1) ≤ 65536 * 4097 := Nat.mul_le_mul (by omega) (by omega)
      have HLEN : Hid (out.length ≤ k * (acc.size + 1)) := hlen
      have hout0 : out.length ≤ 268500992 := by omega
      clear hout hkm hlen
      by_cases hlt : k < s.size
      · have HPH : Hid _ := ph_at s k
        by_cases h10 : k + 10 ≤ s.size
        · cases hq : ((s.extract k (k + 10)).toList == [36, 123, 97, 99, 99, 111, 117, 110, 116, 125])
          · rw [hq] at HPH
            have hnp : ph.isPrefixOf (s.data.toList.drop k) = false := by rw [HPH.out]; simp
            have HEX : Hid (ex acc.data.toList (s.data.toList.drop k) = s[k] :: ex acc.data.toList (s.data.toList.drop (k + 1))) := by
              show _ = _
              rw [drop_cons s k hlt] at hnp ⊢
              exact ex_cons hnp
            clear hnp HPH
            have hb8 : s[k].toNat < 256 := s[k].toNat_lt
            go_wp2_with (at_builtin; refine wpList_append_own _ rfl (.tmp 34) (.tmp 38) 64 rfl w.heap.size 5 i0 (.int .u8 0) 1 1 Tryd.underlying64 hi hz0 hz1 hz2 rfl (by decide) _ _ _ rfl (hown.alloc _) ⟨wr.heap.size, 0, none⟩ 1 1 [.int .u8 (s[k].toNat : Int)] rfl rfl (cell_one_new _ _ _) (by simp [Value.oneCell']) (by unfold maxLen; omega) (by omega) (by simp only [World.size_alloc]; omega) ?_; intro v1 w1 hown1 hgrow1 _)
            go_roundw
            case rel =>
              refine ⟨k + 1, out ++ [s[k]], by omega, by go_num, ?_, ?_, ?_, ?_⟩
              · rw [Lib.byteCells_append, List.length_append]
                exact hown1
              · rw [← HOUT.out, HEX.out]; simp
              · have := HLEN.out
                rw [List.length_append, Nat.add_mul]
                simp only [List.length_singleton]
                omega
              · exact (hb.alloc hbs _).grown hgrow1 (by simp only [World.size_alloc]; omega) (fun j e => (hown.lt j e).1)
            case measure => simp [intOf]; omega
          · rw [hq] at HPH
            have hnp : ph.isPrefixOf (s.data.toList.drop k) = true := by rw [HPH.out]; simp [h10]
            have HEX : Hid (ex acc.data.toList (s.data.toList.drop k) = acc.data.toList ++ ex acc.data.toList (s.data.toList.drop (k + 10))) := by
              show _ = _
              rw [ex_hit hnp, List.drop_drop]
            clear hnp HPH
            go_wp2_with (at_builtin; refine Lib.wpList_append_own_string _ rfl (.tmp 29) (.tmp 30) 64 9 rfl w.heap.size 5 i0 Tryd.underlying64 Tryd.underlying9 hi hz0 hz1 hz2 _ _ _ rfl hown acc rfl (by unfold maxLen; omega) (by omega) hbs ?_; intro v1 w1 hown1 hgrow1 _)
            go_roundw
            case rel =>
              refine ⟨k + 10, out ++ acc.data.toList, by omega, by go_num, ?_, ?_, ?_, ?_⟩
              · rw [Lib.byteCells_append, List.length_append, len_size]
                exact hown1
              · rw [← HOUT.out, HEX.out]; simp
              · have := HLEN.out
                rw [List.length_append, Nat.add_mul, len_size]
                omega
              · exact hb.grown hgrow1 hbs (fun j e => (hown.lt j e).1)
            case measure => simp [intOf]; omega
        · have HM : Hid (¬ k + 10 ≤ s.size) := h10
          have hnp : ph.isPrefixOf (s.data.toList.drop k) = false := by rw [HPH.out]; simp [h10]
          have HEX : Hid (ex acc.data.toList (s.data.toList.drop k) = s[k] :: ex acc.data.toList (s.data.toList.drop (k + 1))) := by
            show _ = _
            rw [drop_cons s k hlt] at hnp ⊢
            exact ex_cons hnp
          clear hnp HPH
          have hb8 : s[k].toNat < 256 := s[k].toNat_lt
          go_wp2_with (at_builtin; refine wpList_append_own _ rfl (.tmp 34) (.tmp 38) 64 rfl w.heap.size 5 i0 (.int .u8 0) 1 1 Tryd.underlying64 hi hz0 hz1 hz2 rfl (by decide) _ _ _ rfl (hown.alloc _) ⟨wr.heap.size, 0, none⟩ 1 1 [.int .u8 (s[k].toNat : Int)] rfl rfl (cell_one_new _ _ _) (by simp [Value.oneCell']) (by unfold maxLen; omega) (by omega) (by simp only [World.size_alloc]; omega) ?_; intro v1 w1 hown1 hgrow1 _)
          go_roundw
          case rel =>
            refine ⟨k + 1, out ++ [s[k]], by omega, by go_num, ?_, ?_, ?_, ?_⟩
            · rw [Lib.byteCells_append, List.length_append]
              exact hown1
            · rw [← HOUT.out, HEX.out]; simp
            · have := HLEN.out
              rw [List.length_append, Nat.add_mul]
              simp only [List.length_singleton]
              omega
            · exact (hb.alloc hbs _).grown hgrow1 (by simp only [World.size_alloc]; omega) (fun j e => (hown.lt j e).1)
          case measure => simp [intOf]; omega
      · obtain rfl : k = s.size := by omega
        have HFIN : Hid (out = ex acc.data.toList s.data.toList) := by
          show _ = _
          rw [← HOUT.out, ← len_size, List.drop_length, ex_nil, List.append_nil]
        clear HOUT HLEN
        rcases hown.2 with ⟨rfl, h0⟩ | ⟨g, cap, cur, rfl, hbg, hg, _, _, _, hc⟩
        · have hcv := run_convert_bytes_nil (P := Tryd.prog) wr 64 5 Tryd.underlying64 Tryd.underlying5 0 0 9 Tryd.underlying9
          go_wp2
          go_ret
          refine ⟨ByteArray.empty, rfl, ?_, hb⟩
          show _ = ex acc.data.toList s.data.toList
          rw [← HFIN.out]
          exact (List.length_eq_zero_iff.1 h0).symm
        · have hcv := run_convert_bytes_back (P := Tryd.prog) wr 64 9 5 ⟨g, 0, none⟩ cap out Tryd.underlying64 Tryd.underlying5 Tryd.underlying9 (fun j hj => by
            refine hown.cells (g := g) rfl j _ ?_
            unfold Lib.byteCells
            rw [List.getElem?_map, List.getElem?_eq_getElem hj]
            rfl)
          go_wp2
          go_ret
          refine ⟨⟨out.toArray⟩, rfl, ?_, hb⟩
          show _ = ex acc.data.toList s.data.toList
          rw [← HFIN.out]
end Go.Proofs.Qxb6601693aDoor
