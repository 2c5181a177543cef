import Derived.Test.Qxb6601693aDoorW3
import Derived.Test.Qxb6601693aDoorW4
import Derived.Lib.CutLaws
namespace Go.Proofs.Qxb6601693aDoor
open Go.RowKit

theorem shaped_below {w w' : World} (h : w.ShapedOpen Tryd.prog) (hb : Below w.heap.size w w') : w'.ShapedOpen Tryd.prog := h.keptBut (hb.frame (fun _ => False)) (fun _ h => h.elim)
theorem below_drew {B : Nat} {w wr : World} (h : Below B w wr) (n : Nat) : Below B w (wr.drewN n) := ⟨h.os, h.tape, h.output, h.size, h.block⟩

set_option maxHeartbeats 4000000 in
set_option maxRecDepth 100000 in
theorem match_plain (acc name : ByteArray) (M : Nat) (sg : Nat → ByteArray) (segs : List (List UInt8)) (HSG : Hid (∀ i, segs.getD i [] = (sg i).data.toList)) (B0 c0 : Nat) (w : World) (hsh : w.ShapedOpen Tryd.prog) (hB0 : B0 < w.heap.size) (HC : Hid (∀ j, j < M → w.cell? ⟨B0, j, none⟩ = some (.string (sg j)))) (hMc : M ≤ c0) (hn : name.size ≤ 4096) (hl : M ≤ 4096) (HSZ : Hid (∀ i, i < M → (sg i).size ≤ 536870912)) (h2 : 2 ≤ M) :
    Calls Tryd.prog 13 #[.agg #[.slice (some ⟨B0, 0, none⟩) M c0, .bool false], .string acc, .string name] w fun e w' => e = .returned (.bool (Lib.hasPrefix name.data.toList (sg 0).data.toList && fin name.data.toList (sg (M - 1)).data.toList (gr name.data.toList segs (M - 2)))) ∧ Below w.heap.size w w' := by
  have hb0 : Below w.heap.size w (w.alloc (.cells #[.slice (some ⟨B0, 0, none⟩) M c0, .bool false] 27)) := (Below.refl _ w).alloc (Nat.le_refl _) _
  have HSH : Hid (w.ShapedOpen Tryd.prog) := hsh
  clear hsh
  have hc0 := cell_below hb0 (a := ⟨B0, 0, none⟩) hB0 (HC.out 0 (by omega))
  obtain ⟨m1, rfl⟩ : ∃ m1, M = m1 + 2 := ⟨M - 2, by omega⟩
  have hcl := cell_below hb0 (a := ⟨B0, m1 + 1, none⟩) hB0 (HC.out (m1 + 1) (by omega))
  have hs0 := HSZ.out 0 (by omega)
  have hsl := HSZ.out (m1 + 1) (by omega)
  have hmi : ((m1 : Int) + 2) - 1 = (m1 : Int) + 1 := by omega
  obtain ⟨x0, HX0⟩ : ∃ x, Hid (sg 0 = x) := ⟨_, rfl⟩
  obtain ⟨xl, HXL⟩ : ∃ x, Hid (sg (m1 + 1) = x) := ⟨_, rfl⟩
  rw [HX0.out] at hc0 hs0
  rw [HXL.out] at hcl hsl
  go_enter Tryd.func13, Tryd.ntmps13
  go_wp2
  have HCW : Hid (∀ nq j, j < m1 + 2 → ((w.alloc (.cells #[.slice (some ⟨B0, 0, none⟩) (m1 + 2) c0, .bool false] 27)).drewN nq).cell? ⟨B0, j, none⟩ = some (.string (sg j))) := fun nq j hj => cell_below (below_drew hb0 nq) (a := ⟨B0, j, none⟩) hB0 (HC.out j hj)
  generalize w.alloc (.cells #[.slice (some ⟨B0, 0, none⟩) (m1 + 2) c0, .bool false] 27) = W1 at *
  have HPF : Hid (Lib.hasPrefix name.data.toList (sg 0).data.toList = Lib.hasPrefix name.data.toList x0.data.toList) := by show _ = _; rw [HX0.out]
  have hpre := fun wx => prefix_con name x0 wx
  cases hp : Lib.hasPrefix name.data.toList x0.data.toList
  · rw [hp] at hpre HPF
    go_quiet (fail)
    go_wp2_with (first | (go_at_call 40; refine (hpre _).mono ?_; rintro e w' ⟨rfl, rfl⟩))
    try go_ret
    exact ⟨ret_bool (by rw [HPF.out]; rfl), below_drew hb0 _⟩
  · have hle : x0.size ≤ name.size := by
      have := hp
      rw [hasPrefix_at, len_size, len_size] at this
      simp only [Bool.and_eq_true, decide_eq_true_eq] at this
      exact this.1
    have HG0 : Hid (gr name.data.toList segs 0 = some x0.size) := by
      show some (segs.getD 0 []).length = _
      rw [HSG.out, HX0.out, len_size]
    rw [hp] at hpre HPF
    go_quiet (fail)
    go_wp2_with (first | (go_at_call 40; refine (hpre _).mono ?_; rintro e w' ⟨rfl, rfl⟩))
    have hbq := below_drew hb0 nq
    have HCQ : Hid (∀ j, j < m1 + 2 → (W1.drewN nq).cell? ⟨B0, j, none⟩ = some (.string (sg j))) := HCW.out nq
    generalize W1.drewN nq = wq at *
    have HSQ : Hid (wq.ShapedOpen Tryd.prog) := shaped_below HSH.out hbq
    go_loop [12, 69] (fun r i => ∃ (j e : Nat) (rs : ByteArray), j ≤ m1 ∧ i = .int .i64 j ∧ r = .string rs ∧ rs.data.toList = name.data.toList.drop e ∧ e ≤ name.size ∧ gr name.data.toList segs j = some e) (fun _ i => m1 - (intOf i).toNat)
    case atStart => exact ⟨0, x0.size, name.extract x0.size name.size, Nat.zero_le _, rfl, rfl, Lib.extract_to_end _ _, hle, HG0.out⟩
    case round =>
      obtain ⟨j, e, rs, hj, rfl, rfl, hrs, he, hg⟩ := hrel
      have HRS : Hid (rs.data.toList = name.data.toList.drop e) := hrs
      have HGJ : Hid (gr name.data.toList segs j = some e) := hg
      have hrsz : rs.size = name.size - e := by rw [← len_size, hrs, List.length_drop, len_size]
      clear hrs hg
      by_cases hjm : j < m1
      · have hcj : wq.cell? ⟨B0, j + 1, none⟩ = some (.string (sg (j + 1))) := HCQ.out (j + 1) (by omega)
        have hcj' : wq.cell? ⟨B0, 1 + j, none⟩ = some (.string (sg (j + 1))) := by rw [Nat.add_comm]; exact hcj
        have hsj := HSZ.out (j + 1) (by omega)
        have HSJ : Hid (segs.getD (j + 1) [] = (sg (j + 1)).data.toList) := HSG.out (j + 1)
        obtain ⟨seg, HSEG⟩ : ∃ x, Hid (sg (j + 1) = x) := ⟨_, rfl⟩
        rw [HSEG.out] at hcj hcj' hsj HSJ
        have HNEXT : Hid (gr name.data.toList segs (j + 1) = gstep name.data.toList (some e) seg.data.toList) := by
          show gstep _ (gr name.data.toList segs j) (segs.getD (j + 1) []) = _
          rw [HGJ.out, HSJ.out]
        have hidx := index_con rs seg wq HSQ.out (by omega)
        have HIX : Hid (gstep name.data.toList (some e) seg.data.toList = if Lib.index rs.data.toList seg.data.toList < 0 then none else some (e + (Lib.index rs.data.toList seg.data.toList).toNat + seg.data.toList.length)) := by
          show _ = _
          rw [HRS.out]
          rfl
        have hcases : Lib.index rs.data.toList seg.data.toList = -1 ∨ ∃ i : Nat, Lib.index rs.data.toList seg.data.toList = i ∧ i + seg.size ≤ rs.size := Lib.indexB_cases rs seg
        rcases hcases with hneg | ⟨i, hi, hroom⟩
        · rw [hneg] at hidx HIX
          have HNONE : Hid (gr name.data.toList segs m1 = none) := gr_none (j := j + 1) (by rw [HNEXT.out, HIX.out, if_pos (by decide)]) m1 (by omega)
          go_wp2_with (first | (go_at_call 41; refine hidx.mono ?_; rintro e' w' ⟨rfl, rfl⟩))
          try go_ret
          refine ⟨ret_bool ?_, hbq⟩
          rw [HPF.out, Bool.true_and]
          show false = fin _ _ (gr name.data.toList segs m1)
          rw [HNONE.out]
          rfl
        · rw [hi] at hidx HIX
          have HNX2 : Hid (gr name.data.toList segs (j + 1) = some (e + i + seg.size)) := by
            show _ = _
            rw [HNEXT.out, HIX.out, if_neg (by omega), Int.toNat_natCast, len_size]
          go_wp2_with (first | (go_at_call 41; refine hidx.mono ?_; rintro e' w' ⟨rfl, rfl⟩))
          go_round
          case rel =>
            refine ⟨j + 1, e + i + seg.size, rs.extract (i + seg.size) rs.size, by omega, by go_num, by rw [hrsz], ?_, by omega, HNX2.out⟩
            rw [Lib.extract_to_end, HRS.out, List.drop_drop, Nat.add_assoc]
          case measure => simp [intOf]; omega
      · obtain rfl : j = m1 := by omega
        have hsuf := fun wx => suffix_con rs xl wx (by omega)
        go_wp2_with (first | (go_at_call 42; refine (hsuf _).mono ?_; rintro e' w' ⟨rfl, rfl⟩))
        try go_ret
        refine ⟨ret_bool ?_, hbq⟩
        rw [HPF.out, Bool.true_and]
        show _ = fin _ (sg (j + 1)).data.toList (gr name.data.toList segs j)
        rw [HGJ.out, HXL.out, HRS.out]
        rfl

/-- block B holds n strings, the first k of which are those of sg -/
def strsF (w : World) (B n : Nat) (sg : Nat → ByteArray) (k : Nat) : Prop := ∀ j, j < n → ∃ x, w.cell? ⟨B, j, none⟩ = some (.string x) ∧ w.frozen? ⟨B, j, none⟩ = false ∧ (j < k → x = sg j)
theorem strsF.set {w : World} {B n k : Nat} {sg : Nat → ByteArray} (h : strsF w B n sg k) (x : ByteArray) (hx : x = sg k) : strsF (w.setCell ⟨B, k, none⟩ (.string x)) B n sg (k + 1) := by
  intro j hj
  obtain ⟨y, h1, h2, h3⟩ := h j hj
  by_cases e : j = k
  · subst e
    exact ⟨x, World.cell?_setCell_same _ _ _ h1, by rw [World.frozen?_setCell]; exact h2, fun _ => hx⟩
  · exact ⟨y, by rw [World.cell?_setCell_other _ _ _ _ (by intro h; cases h; exact e rfl)]; exact h1, by rw [World.frozen?_setCell]; exact h2, fun h => h3 (by omega)⟩
theorem strsF.below {w w' : World} {B n k : Nat} {sg : Nat → ByteArray} (h : strsF w B n sg k) (hB : B < w.heap.size) (hb : Below w.heap.size w w') : strsF w' B n sg k := by
  intro j hj
  obtain ⟨y, h1, h2, h3⟩ := h j hj
  have e : w'.heap[B]? = w.heap[B]? := hb.block B hB
  exact ⟨y, (World.cell?_of_block (a := ⟨B, j, none⟩) e).trans h1, (World.frozen?_of_block (a := ⟨B, j, none⟩) e).trans h2, h3⟩
theorem madeF (w : World) (n : Nat) (sg : Nat → ByteArray) : strsF (w.alloc (.cells (madeCells #[.string ByteArray.empty] n) 9)) w.heap.size n sg 0 := by
  intro j hj
  refine ⟨ByteArray.empty, ?_, by simp, fun h => absurd h (Nat.not_lt_zero _)⟩
  rw [World.cell?_alloc_at _ _ _ _ rfl]
  unfold madeCells
  simp [hj, Nat.mod_one]
theorem strsF.cell {w : World} {B n : Nat} {sg : Nat → ByteArray} (h : strsF w B n sg n) : ∀ j, j < n → w.cell? ⟨B, j, none⟩ = some (.string (sg j)) := fun j hj => by
  obtain ⟨y, h1, _, h3⟩ := h j hj
  rw [h1, h3 hj]
theorem below_after {B : Nat} {w wr w' : World} (h : Below B w wr) (hB : B ≤ wr.heap.size) (h2 : Below wr.heap.size wr w') : Below B w w' :=
  ⟨h2.os.trans h.os, h2.tape.trans h.tape, h2.output.trans h.output, Nat.le_trans h.size h2.size, fun k hk => (h2.block k (by omega)).trans (h.block k hk)⟩

set_option maxHeartbeats 4000000 in
set_option maxRecDepth 100000 in
theorem match_acc (acc name : ByteArray) (m1 : Nat) (sg0 sg : Nat → ByteArray) (segs : List (List UInt8)) (HSG : Hid (∀ i, segs.getD i [] = (sg i).data.toList)) (B0 c0 : Nat) (w : World) (hsh : w.ShapedOpen Tryd.prog) (hB0 : B0 < w.heap.size) (HC : Hid (∀ j, j < m1 + 2 → w.cell? ⟨B0, j, none⟩ = some (.string (sg0 j)))) (hn : name.size ≤ 4096) (hacc : acc.size ≤ 4096) (hl : m1 + 2 ≤ 4096) (HSZ0 : Hid (∀ i, i < m1 + 2 → (sg0 i).size ≤ 65536)) (HSZ : Hid (∀ i, i < m1 + 2 → (sg i).size ≤ 536870912)) (HX : Hid (∀ i, i < m1 + 2 → sg i = ⟨(ex acc.data.toList (sg0 i).data.toList).toArray⟩)) :
    Calls Tryd.prog 13 #[.agg #[.slice (some ⟨B0, 0, none⟩) (m1 + 2) c0, .bool true], .string acc, .string name] w fun e w' => e = .returned (.bool (Lib.hasPrefix name.data.toList (sg 0).data.toList && fin name.data.toList (sg (m1 + 2 - 1)).data.toList (gr name.data.toList segs (m1 + 2 - 2)))) ∧ Below w.heap.size w w' := by
  have HSH : Hid (w.ShapedOpen Tryd.prog) := hsh
  clear hsh
  have hb0 : Below w.heap.size w (w.alloc (.cells #[.slice (some ⟨B0, 0, none⟩) (m1 + 2) c0, .bool true] 27)) := (Below.refl _ w).alloc (Nat.le_refl _) _
  have hz0 : (w.alloc (.cells #[.slice (some ⟨B0, 0, none⟩) (m1 + 2) c0, .bool true] 27)).heap.size = w.heap.size + 1 := by simp
  have hmk := fun wx => run_make_row' (P := Tryd.prog) 22 9 (.string ByteArray.empty) 16 Tryd.underlying22 Tryd.info9 rfl .i64 .i64 (m1 + 2) (by omega) (by omega) wx
  have hmk' : ∀ wx, (Instr.makeSlice 22 (.int .i64 ((m1 : Int) + 2)) (.int .i64 ((m1 : Int) + 2))).run Tryd.prog wx = .ok (.slice (some ⟨wx.heap.size, 0, none⟩) (m1 + 2) (m1 + 2)) (wx.alloc (.cells (madeCells #[.string ByteArray.empty] (m1 + 2)) 9)) := hmk
  clear hmk
  have hm := madeF (w.alloc (.cells #[.slice (some ⟨B0, 0, none⟩) (m1 + 2) c0, .bool true] 27)) (m1 + 2) sg
  have hb1 := hb0.alloc (by omega) (.cells (madeCells #[.string ByteArray.empty] (m1 + 2)) 9)
  have hz1 : ((w.alloc (.cells #[.slice (some ⟨B0, 0, none⟩) (m1 + 2) c0, .bool true] 27)).alloc (.cells (madeCells #[.string ByteArray.empty] (m1 + 2)) 9)).heap.size = w.heap.size + 1 + 1 := by simp
  rw [hz0] at hm
  have hp0 : ((w.alloc (.cells #[.slice (some ⟨B0, 0, none⟩) (m1 + 2) c0, .bool true] 27)).alloc (.cells (madeCells #[.string ByteArray.empty] (m1 + 2)) 9)).cell? ⟨w.heap.size, 0, none⟩ = some (.slice (some ⟨B0, 0, none⟩) (m1 + 2) c0) := by
    rw [World.cell?_of_block (w := w.alloc (.cells #[.slice (some ⟨B0, 0, none⟩) (m1 + 2) c0, .bool true] 27)) (((Below.refl _ _).alloc (Nat.le_refl _) _).block w.heap.size (by rw [hz0]; omega))]
    simp
  clear hb0
  go_enter Tryd.func13, Tryd.ntmps13
  go_wp2
  clear hp0 hz0 hmk'
  generalize (w.alloc (.cells #[.slice (some ⟨B0, 0, none⟩) (m1 + 2) c0, .bool true] 27)).alloc (.cells (madeCells #[.string ByteArray.empty] (m1 + 2)) 9) = w1 at *
  have hBB : w.heap.size ≤ w.heap.size + 1 := Nat.le_succ _
  have hBz : w.heap.size + 1 < w1.heap.size := by omega
  clear hz1
  generalize w.heap.size + 1 = B2 at *
  go_loopw [27] (fun i wr => ∃ k : Nat, k ≤ m1 + 2 ∧ i = .int .i64 k ∧ strsF wr B2 (m1 + 2) sg k ∧ B2 < wr.heap.size ∧ Below w.heap.size w wr) (fun i _ => m1 + 2 - (intOf i).toNat)
  case atStart => exact ⟨0, Nat.zero_le _, rfl, hm, hBz, hb1⟩
  case round =>
    obtain ⟨k, hk, rfl, hst, hz, hb⟩ := hrel
    clear hm hb1 hBz
    have HST : Hid (strsF wr B2 (m1 + 2) sg k) := hst
    clear hst
    by_cases hlt : k < m1 + 2
    · have hck := cell_below hb (a := ⟨B0, k, none⟩) hB0 (HC.out k hlt)
      have hsk := HSZ0.out k hlt
      have HXK : Hid _ := HX.out k hlt
      obtain ⟨y, HY⟩ : ∃ x, Hid (sg0 k = x) := ⟨_, rfl⟩
      rw [HY.out] at hck hsk HXK
      have hrep := replace_con y acc wr (shaped_below HSH.out hb) hsk hacc
      go_wp2_with (first | (go_at_call 38; refine hrep.mono ?_; rintro e w2 ⟨rfl, hb2⟩; obtain ⟨z, hcz, hfz, _⟩ := (HST.out.below hz hb2) k hlt))
      go_roundw
      case rel =>
        have hbs := hb.size
        have := hb2.size
        exact ⟨k + 1, by omega, by go_num, (HST.out.below hz hb2).set _ HXK.out.symm, by simp only [World.size_setCell]; omega, (below_after hb hbs hb2).setCell hBB _⟩
      case measure => simp [intOf]; omega
    · obtain rfl : k = m1 + 2 := by omega
      have hb0 := hb
      have hc0 := HST.out.cell 0 (by omega)
      have hcl := HST.out.cell (m1 + 1) (by omega)
      have hs0 := HSZ.out 0 (by omega)
      have hsl := HSZ.out (m1 + 1) (by omega)
      have hmi : ((m1 : Int) + 2) - 1 = (m1 : Int) + 1 := by omega
      obtain ⟨x0, HX0⟩ : ∃ x, Hid (sg 0 = x) := ⟨_, rfl⟩
      obtain ⟨xl, HXL⟩ : ∃ x, Hid (sg (m1 + 1) = x) := ⟨_, rfl⟩
      rw [HX0.out] at hc0 hs0
      rw [HXL.out] at hcl hsl
      have HCW : Hid (∀ nq j, j < m1 + 2 → (wr.drewN nq).cell? ⟨B2, j, none⟩ = some (.string (sg j))) := fun nq j hj => by rw [← HST.out.cell j hj]; rfl
      clear hb
      go_wp2
      have HPF : Hid (Lib.hasPrefix name.data.toList (sg 0).data.toList = Lib.hasPrefix name.data.toList x0.data.toList) := by show _ = _; rw [HX0.out]
      have hpre := fun wx => prefix_con name x0 wx
      cases hp : Lib.hasPrefix name.data.toList x0.data.toList
      · rw [hp] at hpre HPF
        go_quiet (fail)
        go_wp2_with (first | (go_at_call 40; refine (hpre _).mono ?_; rintro e w' ⟨rfl, rfl⟩))
        try go_ret
        exact ⟨ret_bool (by rw [HPF.out]; rfl), below_drew hb0 _⟩
      · have hle : x0.size ≤ name.size := by
          have := hp
          rw [hasPrefix_at, len_size, len_size] at this
          simp only [Bool.and_eq_true, decide_eq_true_eq] at this
          exact this.1
        have HG0 : Hid (gr name.data.toList segs 0 = some x0.size) := by
          show some (segs.getD 0 []).length = _
          rw [HSG.out, HX0.out, len_size]
        rw [hp] at hpre HPF
        go_quiet (fail)
        go_wp2_with (first | (go_at_call 40; refine (hpre _).mono ?_; rintro e w' ⟨rfl, rfl⟩))
        have hbq := below_drew hb0 nq
        have HCQ : Hid (∀ j, j < m1 + 2 → (wr.drewN nq).cell? ⟨B2, j, none⟩ = some (.string (sg j))) := HCW.out nq
        generalize wr.drewN nq = wq at *
        have HSQ : Hid (wq.ShapedOpen Tryd.prog) := shaped_below HSH.out hbq
        go_loop [12, 69] (fun r i => ∃ (j e : Nat) (rs : ByteArray), j ≤ m1 ∧ i = .int .i64 j ∧ r = .string rs ∧ rs.data.toList = name.data.toList.drop e ∧ e ≤ name.size ∧ gr name.data.toList segs j = some e) (fun _ i => m1 - (intOf i).toNat)
        case atStart => exact ⟨0, x0.size, name.extract x0.size name.size, Nat.zero_le _, rfl, rfl, Lib.extract_to_end _ _, hle, HG0.out⟩
        case round =>
          obtain ⟨j, e, rs, hj, rfl, rfl, hrs, he, hg⟩ := hrel
          have HRS : Hid (rs.data.toList = name.data.toList.drop e) := hrs
          have HGJ : Hid (gr name.data.toList segs j = some e) := hg
          have hrsz : rs.size = name.size - e := by rw [← len_size, hrs, List.length_drop, len_size]
          clear hrs hg
          by_cases hjm : j < m1
          · have hcj : wq.cell? ⟨B2, j + 1, none⟩ = some (.string (sg (j + 1))) := HCQ.out (j + 1) (by omega)
            have hcj' : wq.cell? ⟨B2, 1 + j, none⟩ = some (.string (sg (j + 1))) := by rw [Nat.add_comm]; exact hcj
            have hsj := HSZ.out (j + 1) (by omega)
            have HSJ : Hid (segs.getD (j + 1) [] = (sg (j + 1)).data.toList) := HSG.out (j + 1)
            obtain ⟨seg, HSEG⟩ : ∃ x, Hid (sg (j + 1) = x) := ⟨_, rfl⟩
            rw [HSEG.out] at hcj hcj' hsj HSJ
            have HNEXT : Hid (gr name.data.toList segs (j + 1) = gstep name.data.toList (some e) seg.data.toList) := by
              show gstep _ (gr name.data.toList segs j) (segs.getD (j + 1) []) = _
              rw [HGJ.out, HSJ.out]
            have hidx := index_con rs seg wq HSQ.out (by omega)
            have HIX : Hid (gstep name.data.toList (some e) seg.data.toList = if Lib.index rs.data.toList seg.data.toList < 0 then none else some (e + (Lib.index rs.data.toList seg.data.toList).toNat + seg.data.toList.length)) := by
              show _ = _
              rw [HRS.out]
              rfl
            have hcases : Lib.index rs.data.toList seg.data.toList = -1 ∨ ∃ i : Nat, Lib.index rs.data.toList seg.data.toList = i ∧ i + seg.size ≤ rs.size := Lib.indexB_cases rs seg
            rcases hcases with hneg | ⟨i, hi, hroom⟩
            · rw [hneg] at hidx HIX
              have HNONE : Hid (gr name.data.toList segs m1 = none) := gr_none (j := j + 1) (by rw [HNEXT.out, HIX.out, if_pos (by decide)]) m1 (by omega)
              go_wp2_with (first | (go_at_call 41; refine hidx.mono ?_; rintro e' w' ⟨rfl, rfl⟩))
              try go_ret
              refine ⟨ret_bool ?_, hbq⟩
              rw [HPF.out, Bool.true_and]
              show false = fin _ _ (gr name.data.toList segs m1)
              rw [HNONE.out]
              rfl
            · rw [hi] at hidx HIX
              have HNX2 : Hid (gr name.data.toList segs (j + 1) = some (e + i + seg.size)) := by
                show _ = _
                rw [HNEXT.out, HIX.out, if_neg (by omega), Int.toNat_natCast, len_size]
              go_wp2_with (first | (go_at_call 41; refine hidx.mono ?_; rintro e' w' ⟨rfl, rfl⟩))
              go_round
              case rel =>
                refine ⟨j + 1, e + i + seg.size, rs.extract (i + seg.size) rs.size, by omega, by go_num, by rw [hrsz], ?_, by omega, HNX2.out⟩
                rw [Lib.extract_to_end, HRS.out, List.drop_drop, Nat.add_assoc]
              case measure => simp [intOf]; omega
          · obtain rfl : j = m1 := by omega
            have hsuf := fun wx => suffix_con rs xl wx (by omega)
            go_wp2_with (first | (go_at_call 42; refine (hsuf _).mono ?_; rintro e' w' ⟨rfl, rfl⟩))
            try go_ret
            refine ⟨ret_bool ?_, hbq⟩
            rw [HPF.out, Bool.true_and]
            show _ = fin _ (sg (j + 1)).data.toList (gr name.data.toList segs j)
            rw [HGJ.out, HXL.out, HRS.out]
            rfl
end Go.Proofs.Qxb6601693aDoor
