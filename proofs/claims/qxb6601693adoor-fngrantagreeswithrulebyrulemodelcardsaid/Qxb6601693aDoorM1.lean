import Derived.Test.Qxb6601693aDoorW6
import Derived.Test.Qxb6601693aDoorG4
namespace Go.Proofs.Qxb6601693aDoor
open Go.Shelf
open Go.RowKit

theorem replace_conW (s acc : ByteArray) (w : World) (hsh : w.ShapedOpen Tryd.prog) (hs : s.size ≤ 1048576) (ha : acc.size ≤ 1048576) : Calls Tryd.prog 38 #[.string s, .string ⟨#[36, 123, 97, 99, 99, 111, 117, 110, 116, 125]⟩, .string acc] w fun e w' => e = .returned (.string ⟨(ex acc.data.toList s.data.toList).toArray⟩) ∧ Below w.heap.size w w' := by
  have hc : Lib.countB s ⟨#[36, 123, 97, 99, 99, 111, 117, 110, 116, 125]⟩ ≤ 1048577 := by
    have := Lib.count_le s.data.toList [36, 123, 97, 99, 99, 111, 117, 110, 116, 125]
    rw [len_size] at this
    have e : Lib.countB s ⟨#[36, 123, 97, 99, 99, 111, 117, 110, 116, 125]⟩ = Lib.count s.data.toList [36, 123, 97, 99, 99, 111, 117, 110, 116, 125] := rfl
    omega
  have h := Any.strings_ReplaceAll_shaped Tryd.laysM155 Tryd.Builder_Extra_155 s ⟨#[36, 123, 97, 99, 99, 111, 117, 110, 116, 125]⟩ acc w hsh (by omega) (by decide) (by
    have : Lib.countB s ⟨#[36, 123, 97, 99, 99, 111, 117, 110, 116, 125]⟩ * acc.size ≤ 1048577 * 1048576 := Nat.mul_le_mul hc ha
    omega)
  have e : Lib.replaceAll s.data.toList [36, 123, 97, 99, 99, 111, 117, 110, 116, 125] acc.data.toList = ex acc.data.toList s.data.toList := ex_eq _ _
  have h' : Calls Tryd.prog 38 #[.string s, .string ⟨#[36, 123, 97, 99, 99, 111, 117, 110, 116, 125]⟩, .string acc] w fun e w' => e = .returned (.string ⟨(Lib.replaceAll s.data.toList [36, 123, 97, 99, 99, 111, 117, 110, 116, 125] acc.data.toList).toArray⟩) ∧ Below w.heap.size w w' := h
  rw [e] at h'
  exact h'
theorem join_one_off (B f c : Nat) (x : ByteArray) (w : World) (hx : w.cell? ⟨B, f, none⟩ = some (.string x)) : Calls Tryd.prog 39 #[.slice (some ⟨B, f, none⟩) 1 c, .string ⟨#[]⟩] w fun e w' => e = .returned (.string x) ∧ w' = w :=
  Any.strings_Join_one Tryd.lays156 Tryd.Builder_Extra_156 B f c x ⟨#[]⟩ w hx
set_option maxHeartbeats 4000000 in
set_option maxRecDepth 100000 in
theorem match_plainW (acc name : ByteArray) (M : Nat) (sg : Nat → ByteArray) (segs : List (List UInt8)) (HSG : Hid (∀ i, segs.getD i [] = (sg i).data.toList)) (B0 f c0 : Nat) (w : World) (hsh : w.ShapedOpen Tryd.prog) (hB0 : B0 < w.heap.size) (HC : Hid (∀ j, j < M → w.cell? ⟨B0, f + j, none⟩ = some (.string (sg j)))) (hMc : M ≤ c0) (hn : name.size ≤ 1048576) (hl : M ≤ 1048576) (HSZ : Hid (∀ i, i < M → (sg i).size ≤ 4398046511104)) (h2 : 2 ≤ M) :
    Calls Tryd.prog 13 #[.agg #[.slice (some ⟨B0, f, none⟩) M c0, .bool false], .string acc, .string name] w fun e w' => e = .returned (.bool (Lib.hasPrefix name.data.toList (sg 0).data.toList && fin name.data.toList (sg (M - 1)).data.toList (gr name.data.toList segs (M - 2)))) ∧ Below w.heap.size w w' := by
  have hb0 : Below w.heap.size w (w.alloc (.cells #[.slice (some ⟨B0, f, none⟩) M c0, .bool false] 27)) := (Below.refl _ w).alloc (Nat.le_refl _) _
  have HSH : Hid (w.ShapedOpen Tryd.prog) := hsh
  clear hsh
  have hc0 : (w.alloc (.cells #[.slice (some ⟨B0, f, none⟩) M c0, .bool false] 27)).cell? ⟨B0, f, none⟩ = some (.string (sg 0)) := cell_below hb0 (a := ⟨B0, f, none⟩) hB0 (HC.out 0 (by omega))
  obtain ⟨m1, rfl⟩ : ∃ m1, M = m1 + 2 := ⟨M - 2, by omega⟩
  have hcl := cell_below hb0 (a := ⟨B0, f + (m1 + 1), none⟩) hB0 (HC.out (m1 + 1) (by omega))
  have hcl' : (w.alloc (.cells #[.slice (some ⟨B0, f, none⟩) (m1 + 2) c0, .bool false] 27)).cell? ⟨B0, f + m1 + 1, none⟩ = some (.string (sg (m1 + 1))) := hcl
  have hs0 := HSZ.out 0 (by omega)
  have hsl := HSZ.out (m1 + 1) (by omega)
  have hmi : ((m1 : Int) + 2) - 1 = (m1 : Int) + 1 := by omega
  obtain ⟨x0, HX0⟩ : ∃ x, Hid (sg 0 = x) := ⟨_, rfl⟩
  obtain ⟨xl, HXL⟩ : ∃ x, Hid (sg (m1 + 1) = x) := ⟨_, rfl⟩
  rw [HX0.out] at hc0 hs0
  rw [HXL.out] at hcl hcl' hsl
  go_enter Tryd.func13, Tryd.ntmps13
  go_wp2
  have HCW : Hid (∀ nq j, j < m1 + 2 → ((w.alloc (.cells #[.slice (some ⟨B0, f, none⟩) (m1 + 2) c0, .bool false] 27)).drewN nq).cell? ⟨B0, f + j, none⟩ = some (.string (sg j))) := fun nq j hj => cell_below (below_drew hb0 nq) (a := ⟨B0, f + j, none⟩) hB0 (HC.out j hj)
  generalize w.alloc (.cells #[.slice (some ⟨B0, f, none⟩) (m1 + 2) c0, .bool false] 27) = W1 at *
  have HPF : Hid (Lib.hasPrefix name.data.toList (sg 0).data.toList = Lib.hasPrefix name.data.toList x0.data.toList) := by show _ = _; rw [HX0.out]
  have hpre := fun wx => prefix_con name x0 wx
  cases hp : Lib.hasPrefix name.data.toList x0.data.toList
  · rw [hp] at hpre HPF
    go_quiet (fail)
    go_wp2_with (first | (go_at_call 40; refine (hpre _).mono ?_; rintro e w' ⟨rfl, rfl⟩))
    try go_ret
    exact ⟨ret_bool (by rw [HPF.out]; rfl), below_drew hb0 _⟩
  · have hle : x0.size ≤ name.size := by
      have := hp
      rw [hasPrefix_at, len_size, len_size] at this
      simp only [Bool.and_eq_true, decide_eq_true_eq] at this
      exact this.1
    have HG0 : Hid (gr name.data.toList segs 0 = some x0.size) := by
      show some (segs.getD 0 []).length = _
      rw [HSG.out, HX0.out, len_size]
    rw [hp] at hpre HPF
    go_quiet (fail)
    go_wp2_with (first | (go_at_call 40; refine (hpre _).mono ?_; rintro e w' ⟨rfl, rfl⟩))
    have hbq := below_drew hb0 nq
    have HCQ : Hid (∀ j, j < m1 + 2 → (W1.drewN nq).cell? ⟨B0, f + j, none⟩ = some (.string (sg j))) := HCW.out nq
    generalize W1.drewN nq = wq at *
    have HSQ : Hid (wq.ShapedOpen Tryd.prog) := shaped_below HSH.out hbq
    go_loop [12, 69] (fun r i => ∃ (j e : Nat) (rs : ByteArray), j ≤ m1 ∧ i = .int .i64 j ∧ r = .string rs ∧ rs.data.toList = name.data.toList.drop e ∧ e ≤ name.size ∧ gr name.data.toList segs j = some e) (fun _ i => m1 - (intOf i).toNat)
    case atStart => exact ⟨0, x0.size, name.extract x0.size name.size, Nat.zero_le _, rfl, rfl, Lib.extract_to_end _ _, hle, HG0.out⟩
    case round =>
      obtain ⟨j, e, rs, hj, rfl, rfl, hrs, he, hg⟩ := hrel
      have HRS : Hid (rs.data.toList = name.data.toList.drop e) := hrs
      have HGJ : Hid (gr name.data.toList segs j = some e) := hg
      have hrsz : rs.size = name.size - e := by rw [← len_size, hrs, List.length_drop, len_size]
      clear hrs hg
      by_cases hjm : j < m1
      · have hcj : wq.cell? ⟨B0, f + (j + 1), none⟩ = some (.string (sg (j + 1))) := HCQ.out (j + 1) (by omega)
        have hcj' : wq.cell? ⟨B0, f + 1 + j, none⟩ = some (.string (sg (j + 1))) := by rw [show f + 1 + j = f + (j + 1) by omega]; exact hcj
        have hsj := HSZ.out (j + 1) (by omega)
        have HSJ : Hid (segs.getD (j + 1) [] = (sg (j + 1)).data.toList) := HSG.out (j + 1)
        obtain ⟨seg, HSEG⟩ : ∃ x, Hid (sg (j + 1) = x) := ⟨_, rfl⟩
        rw [HSEG.out] at hcj hcj' hsj HSJ
        have HNEXT : Hid (gr name.data.toList segs (j + 1) = gstep name.data.toList (some e) seg.data.toList) := by
          show gstep _ (gr name.data.toList segs j) (segs.getD (j + 1) []) = _
          rw [HGJ.out, HSJ.out]
        have hidx := index_con rs seg wq HSQ.out (by omega)
        have HIX : Hid (gstep name.data.toList (some e) seg.data.toList = if Lib.index rs.data.toList seg.data.toList < 0 then none else some (e + (Lib.index rs.data.toList seg.data.toList).toNat + seg.data.toList.length)) := by
          show _ = _
          rw [HRS.out]
          rfl
        have hcases : Lib.index rs.data.toList seg.data.toList = -1 ∨ ∃ i : Nat, Lib.index rs.data.toList seg.data.toList = i ∧ i + seg.size ≤ rs.size := Lib.indexB_cases rs seg
        rcases hcases with hneg | ⟨i, hi, hroom⟩
        · rw [hneg] at hidx HIX
          have HNONE : Hid (gr name.data.toList segs m1 = none) := gr_none (j := j + 1) (by rw [HNEXT.out, HIX.out, if_pos (by decide)]) m1 (by omega)
          go_wp2_with (first | (go_at_call 41; refine hidx.mono ?_; rintro e' w' ⟨rfl, rfl⟩))
          try go_ret
          refine ⟨ret_bool ?_, hbq⟩
          rw [HPF.out, Bool.true_and]
          show false = fin _ _ (gr name.data.toList segs m1)
          rw [HNONE.out]
          rfl
        · rw [hi] at hidx HIX
          have HNX2 : Hid (gr name.data.toList segs (j + 1) = some (e + i + seg.size)) := by
            show _ = _
            rw [HNEXT.out, HIX.out, if_neg (by omega), Int.toNat_natCast, len_size]
          go_wp2_with (first | (go_at_call 41; refine hidx.mono ?_; rintro e' w' ⟨rfl, rfl⟩))
          go_round
          case rel =>
            refine ⟨j + 1, e + i + seg.size, rs.extract (i + seg.size) rs.size, by omega, by go_num, by rw [hrsz], ?_, by omega, HNX2.out⟩
            rw [Lib.extract_to_end, HRS.out, List.drop_drop, Nat.add_assoc]
          case measure => simp [intOf]; omega
      · obtain rfl : j = m1 := by omega
        have hsuf := fun wx => suffix_con rs xl wx (by omega)
        go_wp2_with (first | (go_at_call 42; refine (hsuf _).mono ?_; rintro e' w' ⟨rfl, rfl⟩))
        try go_ret
        refine ⟨ret_bool ?_, hbq⟩
        rw [HPF.out, Bool.true_and]
        show _ = fin _ (sg (j + 1)).data.toList (gr name.data.toList segs j)
        rw [HGJ.out, HXL.out, HRS.out]
        rfl

set_option maxHeartbeats 4000000 in
set_option maxRecDepth 100000 in
theorem match_accW (acc name : ByteArray) (m1 : Nat) (sg0 sg : Nat → ByteArray) (segs : List (List UInt8)) (HSG : Hid (∀ i, segs.getD i [] = (sg i).data.toList)) (B0 f c0 : Nat) (w : World) (hsh : w.ShapedOpen Tryd.prog) (hB0 : B0 < w.heap.size) (HC : Hid (∀ j, j < m1 + 2 → w.cell? ⟨B0, f + j, none⟩ = some (.string (sg0 j)))) (hn : name.size ≤ 1048576) (hacc : acc.size ≤ 1048576) (hl : m1 + 2 ≤ 1048576) (HSZ0 : Hid (∀ i, i < m1 + 2 → (sg0 i).size ≤ 1048576)) (HSZ : Hid (∀ i, i < m1 + 2 → (sg i).size ≤ 4398046511104)) (HX : Hid (∀ i, i < m1 + 2 → sg i = ⟨(ex acc.data.toList (sg0 i).data.toList).toArray⟩)) :
    Calls Tryd.prog 13 #[.agg #[.slice (some ⟨B0, f, none⟩) (m1 + 2) c0, .bool true], .string acc, .string name] w fun e w' => e = .returned (.bool (Lib.hasPrefix name.data.toList (sg 0).data.toList && fin name.data.toList (sg (m1 + 2 - 1)).data.toList (gr name.data.toList segs (m1 + 2 - 2)))) ∧ Below w.heap.size w w' := by
  have HSH : Hid (w.ShapedOpen Tryd.prog) := hsh
  clear hsh
  have hb0 : Below w.heap.size w (w.alloc (.cells #[.slice (some ⟨B0, f, none⟩) (m1 + 2) c0, .bool true] 27)) := (Below.refl _ w).alloc (Nat.le_refl _) _
  have hz0 : (w.alloc (.cells #[.slice (some ⟨B0, f, none⟩) (m1 + 2) c0, .bool true] 27)).heap.size = w.heap.size + 1 := by simp
  have hmk := fun wx => run_make_row' (P := Tryd.prog) 22 9 (.string ByteArray.empty) 16 Tryd.underlying22 Tryd.info9 rfl .i64 .i64 (m1 + 2) (by omega) (by omega) wx
  have hmk' : ∀ wx, (Instr.makeSlice 22 (.int .i64 ((m1 : Int) + 2)) (.int .i64 ((m1 : Int) + 2))).run Tryd.prog wx = .ok (.slice (some ⟨wx.heap.size, 0, none⟩) (m1 + 2) (m1 + 2)) (wx.alloc (.cells (madeCells #[.string ByteArray.empty] (m1 + 2)) 9)) := hmk
  clear hmk
  have hm := madeF (w.alloc (.cells #[.slice (some ⟨B0, f, none⟩) (m1 + 2) c0, .bool true] 27)) (m1 + 2) sg
  have hb1 := hb0.alloc (by omega) (.cells (madeCells #[.string ByteArray.empty] (m1 + 2)) 9)
  have hz1 : ((w.alloc (.cells #[.slice (some ⟨B0, f, none⟩) (m1 + 2) c0, .bool true] 27)).alloc (.cells (madeCells #[.string ByteArray.empty] (m1 + 2)) 9)).heap.size = w.heap.size + 1 + 1 := by simp
  rw [hz0] at hm
  have hp0 : ((w.alloc (.cells #[.slice (some ⟨B0, f, none⟩) (m1 + 2) c0, .bool true] 27)).alloc (.cells (madeCells #[.string ByteArray.empty] (m1 + 2)) 9)).cell? ⟨w.heap.size, 0, none⟩ = some (.slice (some ⟨B0, f, none⟩) (m1 + 2) c0) := by
    rw [World.cell?_of_block (w := w.alloc (.cells #[.slice (some ⟨B0, f, none⟩) (m1 + 2) c0, .bool true] 27)) (((Below.refl _ _).alloc (Nat.le_refl _) _).block w.heap.size (by rw [hz0]; omega))]
    simp
  clear hb0
  go_enter Tryd.func13, Tryd.ntmps13
  go_wp2
  clear hp0 hz0 hmk'
  generalize (w.alloc (.cells #[.slice (some ⟨B0, f, none⟩) (m1 + 2) c0, .bool true] 27)).alloc (.cells (madeCells #[.string ByteArray.empty] (m1 + 2)) 9) = w1 at *
  have hBB : w.heap.size ≤ w.heap.size + 1 := Nat.le_succ _
  have hBz : w.heap.size + 1 < w1.heap.size := by omega
  clear hz1
  generalize w.heap.size + 1 = B2 at *
  go_loopw [27] (fun i wr => ∃ k : Nat, k ≤ m1 + 2 ∧ i = .int .i64 k ∧ strsF wr B2 (m1 + 2) sg k ∧ B2 < wr.heap.size ∧ Below w.heap.size w wr) (fun i _ => m1 + 2 - (intOf i).toNat)
  case atStart => exact ⟨0, Nat.zero_le _, rfl, hm, hBz, hb1⟩
  case round =>
    obtain ⟨k, hk, rfl, hst, hz, hb⟩ := hrel
    clear hm hb1 hBz
    have HST : Hid (strsF wr B2 (m1 + 2) sg k) := hst
    clear hst
    by_cases hlt : k < m1 + 2
    · have hck := cell_below hb (a := ⟨B0, f + k, none⟩) hB0 (HC.out k hlt)
      have hsk := HSZ0.out k hlt
      have HXK : Hid _ := HX.out k hlt
      obtain ⟨y, HY⟩ : ∃ x, Hid (sg0 k = x) := ⟨_, rfl⟩
      rw [HY.out] at hck hsk HXK
      have hrep := replace_conW y acc wr (shaped_below HSH.out hb) hsk hacc
      go_wp2_with (first | (go_at_call 38; refine hrep.mono ?_; rintro e w2 ⟨rfl, hb2⟩; obtain ⟨z, hcz, hfz, _⟩ := (HST.out.below hz hb2) k hlt))
      go_roundw
      case rel =>
        have hbs := hb.size
        have := hb2.size
        exact ⟨k + 1, by omega, by go_num, (HST.out.below hz hb2).set _ HXK.out.symm, by simp only [World.size_setCell]; omega, (below_after hb hbs hb2).setCell hBB _⟩
      case measure => simp [intOf]; omega
    · obtain rfl : k = m1 + 2 := by omega
      have hb0 := hb
      have hc0 := HST.out.cell 0 (by omega)
      have hcl := HST.out.cell (m1 + 1) (by omega)
      have hs0 := HSZ.out 0 (by omega)
      have hsl := HSZ.out (m1 + 1) (by omega)
      have hmi : ((m1 : Int) + 2) - 1 = (m1 : Int) + 1 := by omega
      obtain ⟨x0, HX0⟩ : ∃ x, Hid (sg 0 = x) := ⟨_, rfl⟩
      obtain ⟨xl, HXL⟩ : ∃ x, Hid (sg (m1 + 1) = x) := ⟨_, rfl⟩
      rw [HX0.out] at hc0 hs0
      rw [HXL.out] at hcl hsl
      have HCW : Hid (∀ nq j, j < m1 + 2 → (wr.drewN nq).cell? ⟨B2, j, none⟩ = some (.string (sg j))) := fun nq j hj => by rw [← HST.out.cell j hj]; rfl
      clear hb
      go_wp2
      have HPF : Hid (Lib.hasPrefix name.data.toList (sg 0).data.toList = Lib.hasPrefix name.data.toList x0.data.toList) := by show _ = _; rw [HX0.out]
      have hpre := fun wx => prefix_con name x0 wx
      cases hp : Lib.hasPrefix name.data.toList x0.data.toList
      · rw [hp] at hpre HPF
        go_quiet (fail)
        go_wp2_with (first | (go_at_call 40; refine (hpre _).mono ?_; rintro e w' ⟨rfl, rfl⟩))
        try go_ret
        exact ⟨ret_bool (by rw [HPF.out]; rfl), below_drew hb0 _⟩
      · have hle : x0.size ≤ name.size := by
          have := hp
          rw [hasPrefix_at, len_size, len_size] at this
          simp only [Bool.and_eq_true, decide_eq_true_eq] at this
          exact this.1
        have HG0 : Hid (gr name.data.toList segs 0 = some x0.size) := by
          show some (segs.getD 0 []).length = _
          rw [HSG.out, HX0.out, len_size]
        rw [hp] at hpre HPF
        go_quiet (fail)
        go_wp2_with (first | (go_at_call 40; refine (hpre _).mono ?_; rintro e w' ⟨rfl, rfl⟩))
        have hbq := below_drew hb0 nq
        have HCQ : Hid (∀ j, j < m1 + 2 → (wr.drewN nq).cell? ⟨B2, j, none⟩ = some (.string (sg j))) := HCW.out nq
        generalize wr.drewN nq = wq at *
        have HSQ : Hid (wq.ShapedOpen Tryd.prog) := shaped_below HSH.out hbq
        go_loop [12, 69] (fun r i => ∃ (j e : Nat) (rs : ByteArray), j ≤ m1 ∧ i = .int .i64 j ∧ r = .string rs ∧ rs.data.toList = name.data.toList.drop e ∧ e ≤ name.size ∧ gr name.data.toList segs j = some e) (fun _ i => m1 - (intOf i).toNat)
        case atStart => exact ⟨0, x0.size, name.extract x0.size name.size, Nat.zero_le _, rfl, rfl, Lib.extract_to_end _ _, hle, HG0.out⟩
        case round =>
          obtain ⟨j, e, rs, hj, rfl, rfl, hrs, he, hg⟩ := hrel
          have HRS : Hid (rs.data.toList = name.data.toList.drop e) := hrs
          have HGJ : Hid (gr name.data.toList segs j = some e) := hg
          have hrsz : rs.size = name.size - e := by rw [← len_size, hrs, List.length_drop, len_size]
          clear hrs hg
          by_cases hjm : j < m1
          · have hcj : wq.cell? ⟨B2, j + 1, none⟩ = some (.string (sg (j + 1))) := HCQ.out (j + 1) (by omega)
            have hcj' : wq.cell? ⟨B2, 1 + j, none⟩ = some (.string (sg (j + 1))) := by rw [Nat.add_comm]; exact hcj
            have hsj := HSZ.out (j + 1) (by omega)
            have HSJ : Hid (segs.getD (j + 1) [] = (sg (j + 1)).data.toList) := HSG.out (j + 1)
            obtain ⟨seg, HSEG⟩ : ∃ x, Hid (sg (j + 1) = x) := ⟨_, rfl⟩
            rw [HSEG.out] at hcj hcj' hsj HSJ
            have HNEXT : Hid (gr name.data.toList segs (j + 1) = gstep name.data.toList (some e) seg.data.toList) := by
              show gstep _ (gr name.data.toList segs j) (segs.getD (j + 1) []) = _
              rw [HGJ.out, HSJ.out]
            have hidx := index_con rs seg wq HSQ.out (by omega)
            have HIX : Hid (gstep name.data.toList (some e) seg.data.toList = if Lib.index rs.data.toList seg.data.toList < 0 then none else some (e + (Lib.index rs.data.toList seg.data.toList).toNat + seg.data.toList.length)) := by
              show _ = _
              rw [HRS.out]
              rfl
            have hcases : Lib.index rs.data.toList seg.data.toList = -1 ∨ ∃ i : Nat, Lib.index rs.data.toList seg.data.toList = i ∧ i + seg.size ≤ rs.size := Lib.indexB_cases rs seg
            rcases hcases with hneg | ⟨i, hi, hroom⟩
            · rw [hneg] at hidx HIX
              have HNONE : Hid (gr name.data.toList segs m1 = none) := gr_none (j := j + 1) (by rw [HNEXT.out, HIX.out, if_pos (by decide)]) m1 (by omega)
              go_wp2_with (first | (go_at_call 41; refine hidx.mono ?_; rintro e' w' ⟨rfl, rfl⟩))
              try go_ret
              refine ⟨ret_bool ?_, hbq⟩
              rw [HPF.out, Bool.true_and]
              show false = fin _ _ (gr name.data.toList segs m1)
              rw [HNONE.out]
              rfl
            · rw [hi] at hidx HIX
              have HNX2 : Hid (gr name.data.toList segs (j + 1) = some (e + i + seg.size)) := by
                show _ = _
                rw [HNEXT.out, HIX.out, if_neg (by omega), Int.toNat_natCast, len_size]
              go_wp2_with (first | (go_at_call 41; refine hidx.mono ?_; rintro e' w' ⟨rfl, rfl⟩))
              go_round
              case rel =>
                refine ⟨j + 1, e + i + seg.size, rs.extract (i + seg.size) rs.size, by omega, by go_num, by rw [hrsz], ?_, by omega, HNX2.out⟩
                rw [Lib.extract_to_end, HRS.out, List.drop_drop, Nat.add_assoc]
              case measure => simp [intOf]; omega
          · obtain rfl : j = m1 := by omega
            have hsuf := fun wx => suffix_con rs xl wx (by omega)
            go_wp2_with (first | (go_at_call 42; refine (hsuf _).mono ?_; rintro e' w' ⟨rfl, rfl⟩))
            try go_ret
            refine ⟨ret_bool ?_, hbq⟩
            rw [HPF.out, Bool.true_and]
            show _ = fin _ (sg (j + 1)).data.toList (gr name.data.toList segs j)
            rw [HGJ.out, HXL.out, HRS.out]
            rfl
set_option maxHeartbeats 1000000 in
set_option maxRecDepth 100000 in
theorem match_oneW (acc name x : ByteArray) (B0 f c : Nat) (b : Bool) (w : World) (hsh : w.ShapedOpen Tryd.prog) (hB0 : B0 < w.heap.size) (hx : w.cell? ⟨B0, f, none⟩ = some (.string x)) (hs : x.size ≤ 1048576) (ha : acc.size ≤ 1048576) :
    Calls Tryd.prog 13 #[.agg #[.slice (some ⟨B0, f, none⟩) 1 c, .bool b], .string acc, .string name] w fun e w' => e = .returned (.bool (name.data.toList == (if b then ex acc.data.toList x.data.toList else x.data.toList))) ∧ Below w.heap.size w w' := by
  have hb0 : Below w.heap.size w (w.alloc (.cells #[.slice (some ⟨B0, f, none⟩) 1 c, .bool b] 27)) := (Below.refl _ w).alloc (Nat.le_refl _) _
  have hz0 : (w.alloc (.cells #[.slice (some ⟨B0, f, none⟩) 1 c, .bool b] 27)).heap.size = w.heap.size + 1 := by simp
  have HE : Hid ((name.data.toList == (if b then ex acc.data.toList x.data.toList else x.data.toList)) = if b then name.toList == ex acc.data.toList x.data.toList else name.toList == x.toList) := by
    show _ = _
    rw [Lib.toList_data, Lib.toList_data]
    cases b <;> rfl
  generalize (name.data.toList == (if b then ex acc.data.toList x.data.toList else x.data.toList)) = r at *
  cases b
  · have hx0 := cell_below hb0 (a := ⟨B0, f, none⟩) hB0 hx
    have hjo := fun c' => join_one_off B0 f c' x (w.alloc (.cells #[.slice (some ⟨B0, f, none⟩) 1 c, .bool false] 27)) hx0
    go_enter Tryd.func13, Tryd.ntmps13
    go_wp2_with (first | (go_at_call 39; refine (hjo _).mono ?_; rintro e w' ⟨rfl, rfl⟩))
    go_ret
    exact ⟨ret_bool HE.out.symm, hb0⟩
  · have hb1 := hb0.alloc (by omega) (.cells (madeCells #[.string ByteArray.empty] 1) 9)
    have hm := madeF (w.alloc (.cells #[.slice (some ⟨B0, f, none⟩) 1 c, .bool true] 27)) 1 (fun _ => ⟨(ex acc.data.toList x.data.toList).toArray⟩)
    have hz1 : ((w.alloc (.cells #[.slice (some ⟨B0, f, none⟩) 1 c, .bool true] 27)).alloc (.cells (madeCells #[.string ByteArray.empty] 1) 9)).heap.size = w.heap.size + 1 + 1 := by simp
    rw [hz0] at hm
    have hmk : ∀ wx, (Instr.makeSlice 22 (.int .i64 1) (.int .i64 1)).run Tryd.prog wx = .ok (.slice (some ⟨wx.heap.size, 0, none⟩) 1 1) (wx.alloc (.cells (madeCells #[.string ByteArray.empty] 1) 9)) := fun wx => run_make_row' (P := Tryd.prog) 22 9 (.string ByteArray.empty) 16 Tryd.underlying22 Tryd.info9 rfl .i64 .i64 1 (by omega) (by omega) wx
    have HSH : Hid (w.ShapedOpen Tryd.prog) := hsh
    clear hsh
    have hp0 : ((w.alloc (.cells #[.slice (some ⟨B0, f, none⟩) 1 c, .bool true] 27)).alloc (.cells (madeCells #[.string ByteArray.empty] 1) 9)).cell? ⟨w.heap.size, 0, none⟩ = some (.slice (some ⟨B0, f, none⟩) 1 c) := by
      rw [World.cell?_of_block (w := w.alloc (.cells #[.slice (some ⟨B0, f, none⟩) 1 c, .bool true] 27)) (((Below.refl _ _).alloc (Nat.le_refl _) _).block w.heap.size (by rw [hz0]; omega))]
      simp
    clear hb0
    go_enter Tryd.func13, Tryd.ntmps13
    go_wp2
    clear hp0 hz0 hmk
    generalize (w.alloc (.cells #[.slice (some ⟨B0, f, none⟩) 1 c, .bool true] 27)).alloc (.cells (madeCells #[.string ByteArray.empty] 1) 9) = w1 at *
    have hBB : w.heap.size ≤ w.heap.size + 1 := Nat.le_succ _
    have hBz : w.heap.size + 1 < w1.heap.size := by omega
    clear hz1
    generalize w.heap.size + 1 = B2 at *
    go_loopw [27] (fun i wr => ∃ k : Nat, k ≤ 1 ∧ i = .int .i64 k ∧ strsF wr B2 1 (fun _ => ⟨(ex acc.data.toList x.data.toList).toArray⟩) k ∧ B2 < wr.heap.size ∧ Below w.heap.size w wr) (fun i _ => 1 - (intOf i).toNat)
    case atStart => exact ⟨0, Nat.zero_le _, rfl, hm, hBz, hb1⟩
    case round =>
      obtain ⟨k, hk, rfl, hst, hz, hb⟩ := hrel
      clear hm hb1 hBz
      have HST : Hid (strsF wr B2 1 (fun _ => ⟨(ex acc.data.toList x.data.toList).toArray⟩) k) := hst
      clear hst
      by_cases hlt : k < 1
      · obtain rfl : k = 0 := by omega
        have hck := cell_below hb (a := ⟨B0, f, none⟩) hB0 hx
        have hrep := replace_conW x acc wr (shaped_below HSH.out hb) hs ha
        go_wp2_with (first | (go_at_call 38; refine hrep.mono ?_; rintro e w2 ⟨rfl, hb2⟩; obtain ⟨z, hcz, hfz, _⟩ := (HST.out.below hz hb2) 0 hlt))
        go_roundw
        case rel =>
          have hbs := hb.size
          have := hb2.size
          exact ⟨1, by omega, by go_num, (HST.out.below hz hb2).set _ rfl, by simp only [World.size_setCell]; omega, (below_after hb hbs hb2).setCell hBB _⟩
        case measure => simp [intOf]
      · obtain rfl : k = 1 := by omega
        have hjo := fun c' => join_one_con B2 c' _ wr (HST.out.cell 0 (by omega))
        go_wp2_with (first | (go_at_call 39; refine (hjo _).mono ?_; rintro e w' ⟨rfl, rfl⟩))
        go_ret
        refine ⟨ret_bool ?_, hb⟩
        rw [HE.out]
        first | rfl | (rw [Lib.toList_data]; rfl) | simp

theorem expL_sizeW (b : Bool) (acc : ByteArray) (ss : List ByteArray) (ha : acc.size ≤ 1048576) (hs : ∀ i, i < ss.length → (ss.getD i ByteArray.empty).size ≤ 1048576) (i : Nat) (h : i < (expL b acc ss).length) : ((expL b acc ss).getD i ByteArray.empty).size ≤ 4398046511104 := by
  rw [expL_length] at h
  rw [expL_getD b acc ss i h]
  have h1 := hs i h
  cases b
  · show (ss.getD i ByteArray.empty).size ≤ _
    omega
  · show (ex acc.data.toList (ss.getD i ByteArray.empty).data.toList).toArray.size ≤ _
    have h2 := ex_length acc.data.toList _ (ss.getD i ByteArray.empty).data.toList (Nat.le_refl _)
    rw [len_size, len_size] at h2
    have h3 : (ss.getD i ByteArray.empty).size * (acc.size + 1) ≤ 1048576 * 1048577 := Nat.mul_le_mul h1 (by omega)
    rw [List.size_toArray]
    omega


/-- (Pattern).Match, wherever the literals lie -/
theorem match_wide (acc name : ByteArray) (v : Value) (ss : List ByteArray) (b : Bool) (w : World) (hsh : w.ShapedOpen Tryd.prog) (h : StrAt w v ss) (hf : StrsOk ss) (ha : acc.size ≤ 1048576) (hn : name.size ≤ 1048576) :
    Calls Tryd.prog 13 #[.agg #[v, .bool b], .string acc, .string name] w fun e w' => e = .returned (.bool (matchL name.data.toList (segsL (expL b acc ss)))) ∧ Below w.heap.size w w' := by
  obtain ⟨hf1, hf4⟩ := hf
  have e0 : ss.length = 0 → matchL name.data.toList (segsL (expL b acc ss)) = (name.data.toList == []) := fun h0 => by
    rw [List.length_eq_zero_iff.1 h0]
    rfl
  obtain ⟨o, c0, rfl, hMc, hc0⟩ := h
  by_cases h0 : ss.length = 0
  · rw [e0 h0, h0]
    exact match_zero acc name _ c0 b w
  · obtain ⟨B0, f, rfl, hc⟩ := hc0 (by omega)
    have hB0 : B0 < w.heap.size := World.block_lt_of_cell? _ _ (hc 0 (by omega))
    by_cases h1 : ss.length = 1
    · have em : matchL name.data.toList (segsL (expL b acc ss)) = (name.data.toList == (if b then ex acc.data.toList (ss.getD 0 ByteArray.empty).data.toList else (ss.getD 0 ByteArray.empty).data.toList)) := by
        unfold matchL
        rw [segsL_length, expL_length, if_pos (by omega), segsL_getD, expL_getD _ _ _ _ (by omega)]
        cases b <;> rfl
      rw [em, h1]
      exact match_oneW acc name _ B0 f c0 b w hsh hB0 (hc 0 (by omega)) (hf4 0 (by omega)) ha
    · have em : matchL name.data.toList (segsL (expL b acc ss)) = (Lib.hasPrefix name.data.toList ((expL b acc ss).getD 0 ByteArray.empty).data.toList && fin name.data.toList ((expL b acc ss).getD (ss.length - 1) ByteArray.empty).data.toList (gr name.data.toList (segsL (expL b acc ss)) (ss.length - 2))) := by
        unfold matchL
        rw [segsL_length, expL_length, if_neg (by omega), segsL_getD, segsL_getD]
      rw [em]
      have hsz := expL_sizeW b acc ss ha hf4
      rw [expL_length] at hsz
      cases b
      · refine match_plainW acc name ss.length (fun i => (expL false acc ss).getD i ByteArray.empty) _ (segsL_getD _) B0 f c0 w hsh hB0 (fun j hj => ?_) hMc hn hf1 hsz (by omega)
        rw [hc j hj, expL_getD _ _ _ _ hj]
        rfl
      · obtain ⟨m1, hm1⟩ : ∃ m1, ss.length = m1 + 2 := ⟨ss.length - 2, by omega⟩
        have hX := fun j hj => expL_getD true acc ss j hj
        rw [hm1] at hc hf1 hf4 hsz hX ⊢
        exact match_accW acc name m1 (fun i => ss.getD i ByteArray.empty) (fun i => (expL true acc ss).getD i ByteArray.empty) _ (segsL_getD _) B0 f c0 w hsh hB0 hc hn ha hf1 hf4 hsz hX
end Go.Proofs.Qxb6601693aDoor
