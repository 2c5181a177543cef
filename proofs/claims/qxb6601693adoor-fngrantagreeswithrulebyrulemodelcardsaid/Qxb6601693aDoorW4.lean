import Derived.Test.Qxb6601693aDoorW2
namespace Go.Proofs.Qxb6601693aDoor
open Go.RowKit

def segsL (ss : List ByteArray) : List (List UInt8) := ss.map (·.data.toList)
theorem segsL_length (ss : List ByteArray) : (segsL ss).length = ss.length := by unfold segsL; simp
theorem segsL_getD (ss : List ByteArray) (i : Nat) : (segsL ss).getD i [] = (ss.getD i ByteArray.empty).data.toList := by
  unfold segsL
  rw [List.getD_eq_getElem?_getD, List.getD_eq_getElem?_getD, List.getElem?_map]
  cases ss[i]? <;> rfl
theorem hasPrefix_at (n p : List UInt8) : Lib.hasPrefix n p = (decide (p.length ≤ n.length) && (n.take p.length == p)) := by
  unfold Lib.hasPrefix
  rw [Bool.eq_iff_iff, List.isPrefixOf_iff_prefix, List.prefix_iff_eq_take]
  simp only [Bool.and_eq_true, decide_eq_true_eq, beq_iff_eq]
  constructor
  · intro h
    have := congrArg List.length h
    rw [List.length_take] at this
    exact ⟨by omega, h.symm⟩
  · exact fun h => h.2.symm
theorem occB_at (name seg : ByteArray) (q : Nat) : occB name.data.toList seg.data.toList q = (decide (q + seg.size ≤ name.size) && ((name.extract q (q + seg.size)).toList == seg.toList)) := by
  unfold occB
  rw [Lib.toList_data, Lib.toList_data, Lib.extract_data, Nat.add_sub_cancel_left, len_size, len_size]

/-- the bools f lie at the head of block B -/
def boolsAt (w : World) (B N : Nat) (f : Nat → Bool) : Prop := ∀ q, q < N → w.cell? ⟨B, q, none⟩ = some (.bool (f q)) ∧ w.frozen? ⟨B, q, none⟩ = false
theorem made_bools (w : World) (n : Nat) : boolsAt (w.alloc (.cells (madeCells #[.bool false] n) 4)) w.heap.size n (fun _ => false) := by
  intro j hj
  refine ⟨?_, by simp⟩
  rw [World.cell?_alloc_at _ _ _ _ rfl]
  unfold madeCells
  simp [hj, Nat.mod_one]
theorem made_bools1 (w : World) (n k : Nat) : boolsAt (w.alloc (.cells ((madeCells #[.bool false] n).setIfInBounds k (.bool true)) 4)) w.heap.size n (fun p => if p = k then true else false) := by
  intro j hj
  refine ⟨?_, by simp⟩
  rw [World.cell?_alloc_at _ _ _ _ rfl]
  show ((madeCells #[.bool false] n).setIfInBounds k (.bool true))[j]? = some (.bool (if j = k then true else false))
  rw [Array.getElem?_setIfInBounds]
  unfold madeCells
  by_cases e : k = j
  · subst e
    simp [hj]
  · rw [if_neg e, if_neg (fun h => e h.symm)]
    simp [hj, Nat.mod_one]
theorem boolsAt.set {w : World} {B N : Nat} {f g : Nat → Bool} (h : boolsAt w B N f) (k : Nat) (hg : ∀ p, p < N → g p = if p = k then true else f p) : boolsAt (w.setCell ⟨B, k, none⟩ (.bool true)) B N g := by
  intro j hj
  obtain ⟨h1, h2⟩ := h j hj
  refine ⟨?_, by rw [World.frozen?_setCell]; exact h2⟩
  rw [hg j hj]
  by_cases e : j = k
  · subst e
    rw [if_pos rfl]
    exact World.cell?_setCell_same _ _ _ h1
  · rw [if_neg e, World.cell?_setCell_other _ _ _ _ (by intro h; cases h; exact e rfl)]
    exact h1
theorem boolsAt.other {w : World} {B C N : Nat} {f : Nat → Bool} (h : boolsAt w B N f) (k : Nat) (v : Value) (hne : B ≠ C) : boolsAt (w.setCell ⟨C, k, none⟩ v) B N f := by
  intro j hj
  obtain ⟨h1, h2⟩ := h j hj
  exact ⟨by rw [World.cell?_setCell_other _ _ _ _ (by intro h; cases h; exact hne rfl)]; exact h1, by rw [World.frozen?_setCell]; exact h2⟩
theorem boolsAt.congr {w : World} {B N : Nat} {f g : Nat → Bool} (h : boolsAt w B N f) (hg : ∀ p, p < N → g p = f p) : boolsAt w B N g := fun j hj => by
  rw [hg j hj]; exact h j hj
theorem boolsAt.alloc {w : World} {B N : Nat} {f : Nat → Bool} (h : boolsAt w B N f) (hB : B < w.heap.size) (o : Obj) : boolsAt (w.alloc o) B N f := fun j hj => by
  obtain ⟨h1, h2⟩ := h j hj
  have e : (w.alloc o).heap[B]? = w.heap[B]? := ((Below.refl w.heap.size w).alloc (Nat.le_refl _) o).block B hB
  exact ⟨(World.cell?_of_block (a := ⟨B, j, none⟩) e).trans h1, (World.frozen?_of_block (a := ⟨B, j, none⟩) e).trans h2⟩

/-- the loop over the middle segments: what stands at its head -/
def SegI (w : World) (name : ByteArray) (segs : List (List UInt8)) (j : Nat) (v : Value) (wr : World) : Prop :=
  ∃ (B : Nat) (f : Nat → Bool), v = .slice (some ⟨B, 0, none⟩) (name.size + 1) (name.size + 1) ∧ w.heap.size ≤ B ∧ B < wr.heap.size ∧ boolsAt wr B (name.size + 1) f ∧ RowIs name.data.toList (gr name.data.toList segs (j - 1)) f ∧ Below w.heap.size w wr

theorem gr_le (n : List UInt8) (segs : List (List UInt8)) (h0 : (segs.getD 0 []).length ≤ n.length) : ∀ j e, gr n segs j = some e → e ≤ n.length
  | 0, e, h => by cases h; exact h0
  | j + 1, e, h => gstep_le (gr_le n segs h0 j) e h

set_option maxHeartbeats 4000000 in
set_option maxRecDepth 100000 in
theorem seg_two (name : ByteArray) (M : Nat) (sg : Nat → ByteArray) (segs : List (List UInt8)) (HSG : Hid (∀ i, segs.getD i [] = (sg i).data.toList)) (B0 c0 : Nat) (w : World) (hB0 : B0 < w.heap.size) (HC : Hid (∀ j, j < M → w.cell? ⟨B0, j, none⟩ = some (.string (sg j)))) (hn : name.size ≤ 4096) (hl : M ≤ 4096) (HSZ : Hid (∀ i, i < M → (sg i).size ≤ 536870912)) (h2 : 2 ≤ M) :
    Calls Tryd.prog 14 #[.string name, .slice (some ⟨B0, 0, none⟩) M c0] w fun e w' => e = .returned (.bool (Lib.hasPrefix name.data.toList (sg 0).data.toList && fin name.data.toList (sg (M - 1)).data.toList (gr name.data.toList segs (M - 2)))) ∧ Below w.heap.size w w' := by
  have hc0 := HC.out 0 (by omega)
  have hs0 := HSZ.out 0 (by omega)
  have HP : Hid (Lib.hasPrefix name.data.toList (sg 0).data.toList = (decide ((sg 0).size ≤ name.size) && ((name.extract 0 (sg 0).size).toList == (sg 0).toList))) := by
    show _ = _
    rw [hasPrefix_at, len_size, len_size, Lib.toList_data, Lib.toList_data, Lib.extract_data]
    rfl
  have HR0 : Hid ((sg 0).size ≤ name.size → RowIs name.data.toList (gr name.data.toList segs (1 - 1)) (fun p => if p = (sg 0).size then true else false)) := fun hle => by
    show RowIs _ (some (segs.getD 0 []).length) _
    rw [HSG.out, len_size]
    refine ⟨by rw [len_size]; exact hle, by simp, fun q hq => ?_⟩
    show (if q = (sg 0).size then true else false) = false
    rw [if_neg (by omega)]
  have HGL : Hid ((sg 0).size ≤ name.size → ∀ j e, gr name.data.toList segs j = some e → e ≤ name.data.toList.length) := fun hle => gr_le _ _ (by rw [HSG.out, len_size, len_size]; exact hle)
  obtain ⟨m1, rfl⟩ : ∃ m1, M = m1 + 1 := ⟨M - 1, by omega⟩
  have hM0 : ((m1 : Int) + 1 == 0) = false := by rw [beq_eq_false_iff_ne]; omega
  have hM1 : ((m1 : Int) + 1 == 1) = false := by rw [beq_eq_false_iff_ne]; omega
  have hmi : ((m1 : Int) + 1) - 1 = (m1 : Int) := by omega
  have HFIN : Hid (fin name.data.toList (sg (m1 + 1 - 1)).data.toList (gr name.data.toList segs (m1 + 1 - 2)) = fin name.data.toList (sg m1).data.toList (gr name.data.toList segs (m1 - 1))) := rfl
  rw [HFIN.out]
  clear HFIN
  generalize hx0 : sg 0 = x0 at *
  by_cases hle : x0.size ≤ name.size
  · cases hq : ((name.extract 0 x0.size).toList == x0.toList)
    · have hq' : ((name.extract 0 x0.size).toList != x0.toList) = true := by rw [bne, hq]; rfl
      go_enter Tryd.func14, Tryd.ntmps14
      go_wp2
      go_ret
      exact ⟨ret_bool (by rw [HP.out, hq]; simp), Below.refl _ _⟩
    · have hq' : ((name.extract 0 x0.size).toList != x0.toList) = false := by rw [bne, hq]; rfl
      have HPT : Hid (Lib.hasPrefix name.data.toList x0.data.toList = true) := by show _ = _; rw [HP.out, hq]; simp [hle]
      have hR := HR0.out hle
      have HGL' : Hid _ := HGL.out hle
      have hmk := fun wx => run_make_row' (P := Tryd.prog) 44 4 (.bool false) 1 Tryd.underlying44 Tryd.info4 rfl .i64 .i64 (name.size + 1) (by omega) (by omega) wx
      have hmk' : ∀ wx, (Instr.makeSlice 44 (.int .i64 ((name.size : Int) + 1)) (.int .i64 ((name.size : Int) + 1))).run Tryd.prog wx = .ok (.slice (some ⟨wx.heap.size, 0, none⟩) (name.size + 1) (name.size + 1)) (wx.alloc (.cells (madeCells #[.bool false] (name.size + 1)) 4)) := hmk
      clear hmk
      have hm := made_bools w (name.size + 1)
      have hI0 : SegI w name segs 1 (.slice (some ⟨w.heap.size, 0, none⟩) (name.size + 1) (name.size + 1)) (w.alloc (.cells ((madeCells #[.bool false] (name.size + 1)).setIfInBounds x0.size (.bool true)) 4)) :=
        ⟨_, _, rfl, Nat.le_refl _, by simp, made_bools1 w _ _, hR, (Below.refl _ w).alloc (Nat.le_refl _) _⟩
      obtain ⟨hcx, hfx⟩ := hm x0.size (by omega)
      clear HR0 HGL hR HP hm
      go_enter Tryd.func14, Tryd.ntmps14
      go_wp2
      clear hcx hfx
      generalize w.alloc (.cells ((madeCells #[.bool false] (name.size + 1)).setIfInBounds x0.size (.bool true)) 4) = w0 at *
      go_loopw [8, 9] (fun r i wr => ∃ j : Nat, 1 ≤ j ∧ j ≤ m1 ∧ i = .int .i64 j ∧ SegI w name segs j r wr) (fun _ i _ => m1 - (intOf i).toNat)
      case atStart => exact ⟨1, Nat.le_refl _, by omega, rfl, hI0⟩
      case round =>
        obtain ⟨j, hj1, hjm, rfl, B, f, rfl, hwB, hB, hbools, hrow, hb⟩ := hrel
        clear hI0
        have HB : Hid (boolsAt wr B (name.size + 1) f) := hbools
        have HROW : Hid (RowIs name.data.toList (gr name.data.toList segs (j - 1)) f) := hrow
        clear hbools hrow
        by_cases hj : j < m1
        · have hcj := cell_below hb hB0 (HC.out j (by omega))
          have hsj := HSZ.out j (by omega)
          have HSJ : Hid (segs.getD j [] = (sg j).data.toList) := HSG.out j
          generalize sg j = seg at *
          have hB2 : B ≠ wr.heap.size := by omega
          have hb1 : Below w.heap.size w (wr.alloc (.cells (madeCells #[.bool false] (name.size + 1)) 4)) := hb.alloc hb.size _
          have hm2 := made_bools wr (name.size + 1)
          have hf2 := HB.out.alloc hB (.cells (madeCells #[.bool false] (name.size + 1)) 4)
          have hz2 : (wr.alloc (.cells (madeCells #[.bool false] (name.size + 1)) 4)).heap.size = wr.heap.size + 1 := by simp
          go_wp2
          generalize wr.alloc (.cells (madeCells #[.bool false] (name.size + 1)) 4) = w1 at *
          clear hcj hmk'
          have hB2w : w.heap.size ≤ wr.heap.size := hb.size
          generalize wr.heap.size = B2 at *
          have HGJ : Hid (gr name.data.toList segs j = gstep name.data.toList (gr name.data.toList segs (j - 1)) seg.data.toList) := by
            show _ = _
            obtain ⟨j', rfl⟩ : ∃ j', j = j' + 1 := ⟨j - 1, by omega⟩
            show gstep _ (gr _ _ j') (segs.getD (j' + 1) []) = _
            rw [HSJ.out]
            rfl
          have HLE : Hid (∀ e, gr name.data.toList segs (j - 1) = some e → e ≤ name.data.toList.length) := HGL'.out (j - 1)
          have HOC : Hid (∀ q, occB name.data.toList seg.data.toList q = (decide (q + seg.size ≤ name.size) && ((name.extract q (q + seg.size)).toList == seg.toList))) := occB_at name seg
          generalize gr name.data.toList segs (j - 1) = st at *
          go_loopw [12, 13] (fun s i w2 => ∃ q : Nat, q ≤ name.size + 1 ∧ i = .int .i64 q ∧ s = .bool (seenB st q) ∧ boolsAt w2 B2 (name.size + 1) (nextF name.data.toList st seg.data.toList q) ∧ boolsAt w2 B (name.size + 1) f ∧ B2 < w2.heap.size ∧ Below w.heap.size w w2) (fun _ i _ => name.size + 1 - (intOf i).toNat)
          case atStart =>
            refine ⟨0, Nat.zero_le _, rfl, ?_, hm2.congr (fun p _ => nextF_zero _ _ _ p), hf2, by omega, hb1⟩
            cases st <;> rfl
          case round =>
            obtain ⟨q, hq, rfl, rfl, hnx, hfq, hzz, hbb⟩ := hrel
            clear hm2 hf2 hb1 hz2
            have HNX : Hid (boolsAt wr B2 (name.size + 1) (nextF name.data.toList st seg.data.toList q)) := hnx
            have HFQ : Hid (boolsAt wr B (name.size + 1) f) := hfq
            clear hnx hfq
            by_cases hqn : q ≤ name.size
            · have HS : Hid (seenB st (q + 1) = (seenB st q || f q)) := row_seen HROW.out q (by rw [len_size]; exact hqn)
              have hcq := (HFQ.out q (by omega)).1
              have HOQ : Hid (occB name.data.toList seg.data.toList q = (decide (q + seg.size ≤ name.size) && ((name.extract q (q + seg.size)).toList == seg.toList))) := HOC.out q
              cases hfv : f q
              · rw [hfv] at hcq
                cases hsv : seenB st q
                · have HS1 : Hid (seenB st (q + 1) = false) := by show _ = _; rw [HS.out, hfv, hsv]; rfl
                  have HMISS : Hid ((seenB st (q + 1) && occB name.data.toList seg.data.toList q) = false) := by show _ = _; rw [HS1.out, Bool.false_and]
                  go_wp2
                  go_roundw
                  case rel => exact ⟨q + 1, by omega, by go_num, by rw [HS1.out], HNX.out.congr (fun p _ => nextF_miss HMISS.out p), HFQ.out, hzz, hbb⟩
                  case measure => simp [intOf]; omega
                · have HS1 : Hid (seenB st (q + 1) = true) := by show _ = _; rw [HS.out, hsv]; rfl
                  by_cases hfit : q + seg.size ≤ name.size
                  · have hfit' : ((q : Int) + (seg.size : Int) ≤ (name.size : Int)) := by omega
                    cases heq : ((name.extract q (q + seg.size)).toList == seg.toList)
                    · have HMISS : Hid ((seenB st (q + 1) && occB name.data.toList seg.data.toList q) = false) := by show _ = _; rw [HOQ.out, heq, Bool.and_false, Bool.and_false]
                      go_wp2
                      go_roundw
                      case rel => exact ⟨q + 1, by omega, by go_num, by rw [HS1.out], HNX.out.congr (fun p _ => nextF_miss HMISS.out p), HFQ.out, hzz, hbb⟩
                      case measure => simp [intOf]; omega
                    · have HHIT : Hid ((seenB st (q + 1) && occB name.data.toList seg.data.toList q) = true) := by show _ = _; rw [HS1.out, HOQ.out, heq]; simp [hfit]
                      obtain ⟨hcn, hfn⟩ := HNX.out (q + seg.size) (by omega)
                      go_wp2
                      go_roundw
                      case rel => exact ⟨q + 1, by omega, by go_num, by rw [HS1.out], HNX.out.set (q + seg.size) (fun p _ => by rw [nextF_hit HHIT.out p, len_size]), HFQ.out.other _ _ hB2, by simpa using hzz, hbb.setCell hB2w _⟩
                      case measure => simp [intOf]; omega
                  · have HMISS : Hid ((seenB st (q + 1) && occB name.data.toList seg.data.toList q) = false) := by show _ = _; rw [HOQ.out]; simp [hfit]
                    have hfit' : ¬ ((q : Int) + (seg.size : Int) ≤ (name.size : Int)) := by omega
                    go_wp2
                    go_roundw
                    case rel => exact ⟨q + 1, by omega, by go_num, by rw [HS1.out], HNX.out.congr (fun p _ => nextF_miss HMISS.out p), HFQ.out, hzz, hbb⟩
                    case measure => simp [intOf]; omega
              · rw [hfv] at hcq
                have HS1 : Hid (seenB st (q + 1) = true) := by show _ = _; rw [HS.out, hfv, Bool.or_true]
                by_cases hfit : q + seg.size ≤ name.size
                · have hfit' : ((q : Int) + (seg.size : Int) ≤ (name.size : Int)) := by omega
                  cases heq : ((name.extract q (q + seg.size)).toList == seg.toList)
                  · have HMISS : Hid ((seenB st (q + 1) && occB name.data.toList seg.data.toList q) = false) := by show _ = _; rw [HOQ.out, heq, Bool.and_false, Bool.and_false]
                    go_wp2
                    go_roundw
                    case rel => exact ⟨q + 1, by omega, by go_num, by rw [HS1.out], HNX.out.congr (fun p _ => nextF_miss HMISS.out p), HFQ.out, hzz, hbb⟩
                    case measure => simp [intOf]; omega
                  · have HHIT : Hid ((seenB st (q + 1) && occB name.data.toList seg.data.toList q) = true) := by show _ = _; rw [HS1.out, HOQ.out, heq]; simp [hfit]
                    obtain ⟨hcn, hfn⟩ := HNX.out (q + seg.size) (by omega)
                    go_wp2
                    go_roundw
                    case rel => exact ⟨q + 1, by omega, by go_num, by rw [HS1.out], HNX.out.set (q + seg.size) (fun p _ => by rw [nextF_hit HHIT.out p, len_size]), HFQ.out.other _ _ hB2, by simpa using hzz, hbb.setCell hB2w _⟩
                    case measure => simp [intOf]; omega
                · have HMISS : Hid ((seenB st (q + 1) && occB name.data.toList seg.data.toList q) = false) := by show _ = _; rw [HOQ.out]; simp [hfit]
                  have hfit' : ¬ ((q : Int) + (seg.size : Int) ≤ (name.size : Int)) := by omega
                  go_wp2
                  go_roundw
                  case rel => exact ⟨q + 1, by omega, by go_num, by rw [HS1.out], HNX.out.congr (fun p _ => nextF_miss HMISS.out p), HFQ.out, hzz, hbb⟩
                  case measure => simp [intOf]; omega
            · obtain rfl : q = name.size + 1 := by omega
              go_wp2
              go_roundw
              case rel =>
                refine ⟨j + 1, by omega, by omega, by go_num, B2, _, rfl, hB2w, hzz, HNX.out, ?_, hbb⟩
                have := row_next (seg := seg.data.toList) HLE.out
                rw [Nat.add_sub_cancel, HGJ.out]
                rw [len_size] at this
                exact this
              case measure => simp [intOf]; omega
        · obtain rfl : j = m1 := by omega
          have hcj := cell_below hb hB0 (HC.out j (by omega))
          have hsj := HSZ.out j (by omega)
          obtain ⟨last, HLAST⟩ : ∃ last, Hid (sg j = last) := ⟨_, rfl⟩
          rw [HLAST.out] at hcj hsj
          have HFI : Hid _ := fin_iff (last := last.data.toList) HROW.out
          rw [len_size, len_size] at HFI
          clear hmk'
          by_cases hlast : last.size ≤ name.size
          · have hst : (name.size : Int) - (last.size : Int) = ((name.size - last.size : Nat) : Int) := by omega
            cases heq : ((name.extract (name.size - last.size) name.size).toList == last.toList)
            · have heq' : ((name.extract (name.size - last.size) name.size).toList != last.toList) = true := by rw [bne, heq]; rfl
              go_wp2
              try go_ret
              refine ⟨ret_bool ?_, hb⟩; rw [HPT.out, Bool.true_and, HLAST.out]
              symm
              rw [Bool.eq_false_iff]
              intro h
              obtain ⟨_, h5, _⟩ := HFI.out.1 h
              rw [Lib.toList_data, Lib.toList_data, Lib.extract_to_end, h5] at heq
              simp at heq
            · have heq' : ((name.extract (name.size - last.size) name.size).toList != last.toList) = false := by rw [bne, heq]; rfl
              have HEQ : Hid (name.data.toList.drop (name.size - last.size) = last.data.toList) := by
                show _ = _
                rw [Lib.toList_data, Lib.toList_data, Lib.extract_to_end] at heq
                simpa using heq
              have HWB : Hid (Below w.heap.size w wr) := hb
              go_wp2
              generalize hstart : name.size - last.size = start at *
              go_loop [16] (fun i => ∃ p : Nat, p ≤ start + 1 ∧ i = .int .i64 p ∧ ∀ q, q < p → f q = false) (fun i => start + 1 - (intOf i).toNat)
              case atStart => exact ⟨0, Nat.zero_le _, rfl, fun q hq => absurd hq (Nat.not_lt_zero _)⟩
              case round =>
                obtain ⟨p, hp, rfl, hall⟩ := hrel
                have HALL : Hid (∀ q, q < p → f q = false) := hall
                clear hall
                by_cases hps : p ≤ start
                · have hcp := (HB.out p (by omega)).1
                  cases hfp : f p
                  · rw [hfp] at hcp
                    go_wp2
                    go_round
                    case rel =>
                      refine ⟨p + 1, by omega, by go_num, fun q hq => ?_⟩
                      by_cases e : q = p
                      · rw [e]; exact hfp
                      · exact HALL.out q (by omega)
                    case measure => simp [intOf]; omega
                  · rw [hfp] at hcp
                    go_wp2
                    try go_ret
                    exact ⟨ret_bool (by rw [HPT.out, Bool.true_and, HLAST.out]; exact (HFI.out.2 ⟨hlast, HEQ.out, p, hps, hfp⟩).symm), hb⟩
                · go_wp2
                  try go_ret
                  refine ⟨ret_bool ?_, hb⟩; rw [HPT.out, Bool.true_and, HLAST.out]
                  symm
                  rw [Bool.eq_false_iff]
                  intro h
                  obtain ⟨_, _, q, h6, h7⟩ := HFI.out.1 h
                  rw [HALL.out q (by omega)] at h7
                  cases h7
          · go_wp2
            try go_ret
            refine ⟨ret_bool ?_, hb⟩; rw [HPT.out, Bool.true_and, HLAST.out]
            symm
            rw [Bool.eq_false_iff]
            intro h
            exact hlast (HFI.out.1 h).1
  · go_enter Tryd.func14, Tryd.ntmps14
    go_wp2
    go_ret
    exact ⟨ret_bool (by rw [HP.out]; simp [hle]), Below.refl _ _⟩

set_option maxHeartbeats 4000000 in
set_option maxRecDepth 100000 in
theorem seg_any (name : ByteArray) (v : Value) (ss : List ByteArray) (w : World) (h : OwnAt w v ss) (hn : name.size ≤ 4096) (hl : ss.length ≤ 4096) (hsz : ∀ i, i < ss.length → (ss.getD i ByteArray.empty).size ≤ 536870912) :
    Calls Tryd.prog 14 #[.string name, v] w fun e w' => e = .returned (.bool (matchL name.data.toList (segsL ss))) ∧ Below w.heap.size w w' := by
  have HM : Hid (matchL name.data.toList (segsL ss) = if ss.length < 2 then name.data.toList == (ss.getD 0 ByteArray.empty).data.toList else Lib.hasPrefix name.data.toList (ss.getD 0 ByteArray.empty).data.toList && fin name.data.toList (ss.getD (ss.length - 1) ByteArray.empty).data.toList (gr name.data.toList (segsL ss) (ss.length - 2))) := by
    show _ = _
    unfold matchL
    rw [segsL_length, segsL_getD, segsL_getD]
  rcases h with ⟨rfl, rfl⟩ | ⟨B0, c0, rfl, _, _, hB0, hc⟩
  · go_enter Tryd.func14, Tryd.ntmps14
    go_wp2
    go_ret
    refine ⟨ret_bool ?_, Below.refl _ _⟩
    rw [HM.out, if_pos (by decide), ← Lib.toList_data]
    generalize name.toList = l
    cases l <;> rfl
  · by_cases h0 : ss.length = 0
    · rw [h0]
      go_enter Tryd.func14, Tryd.ntmps14
      go_wp2
      go_ret
      refine ⟨ret_bool ?_, Below.refl _ _⟩
      rw [HM.out, if_pos (by omega), ← Lib.toList_data, List.length_eq_zero_iff.1 h0]
      generalize name.toList = l
      cases l <;> rfl
    · have hc0 := hc 0 (by omega)
      by_cases h1 : ss.length = 1
      · rw [h1]
        have HE : Hid (matchL name.data.toList (segsL ss) = (name.toList == (ss.getD 0 ByteArray.empty).toList)) := by
          show _ = _
          rw [HM.out, if_pos (by omega), Lib.toList_data, Lib.toList_data]
        generalize ss.getD 0 ByteArray.empty = x at *
        clear hc HM
        go_enter Tryd.func14, Tryd.ntmps14
        go_wp2
        go_ret
        exact ⟨ret_bool HE.out.symm, Below.refl _ _⟩
      · have := seg_two name ss.length (fun i => ss.getD i ByteArray.empty) (segsL ss) (segsL_getD ss) B0 c0 w hB0 hc hn hl hsz (by omega)
        rw [HM.out, if_neg (by omega)]
        exact this
end Go.Proofs.Qxb6601693aDoor
