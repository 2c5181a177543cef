import Derived.Test.Qxb6601375aDoorW3
import Derived.Test.Qxb6601375aDoorR3
namespace Go.Proofs.Qxb6601375aDoor
open Go.RowKit

theorem kind_prose (L : List (List UInt8)) (i : Nat) : (kindI L i == 0) = prose L i := by
  unfold kindI prose
  cases openAt L i <;> cases openAt L (i + 1) <;> rfl
/-- the first loop: no hit before k -/
def NoHit (L : List (List UInt8)) (h : List UInt8) (k : Nat) : Prop := ∀ j, j < k → hit L h j = false
def FoundAt (L : List (List UInt8)) (h : List UInt8) (b : Int) : Prop := (b = -1 ∧ NoHit L h L.length) ∨ ∃ a : Nat, b = a ∧ firstHit L h a

theorem off_last (L : List (List UInt8)) (a : Nat) (h : L.length ≤ a) : off L a = L.flatten.length := by
  unfold off
  rw [List.take_of_length_le h, List.length_flatten]

set_option maxHeartbeats 2000000 in
theorem model_any (s h : ByteArray) (w : World) (hs : s.size + h.size ≤ 1048576) :
    Calls Tryd.prog 7 #[.string s, .string h] w (SecPost w s h) := by
  have hh : h.size ≤ 1048576 := by omega
  have hn := lines_count s.data.toList
  rw [len_size] at hn
  go_enter Tryd.func7, Tryd.ntmps7
  go_wp2_with (first
    | (go_at_call 13; refine (bounds_any _ _ (by omega)).mono ?_; rintro e w1 ⟨v1, v2, rfl, hrows, hb1⟩)
    | (go_at_call 14; refine (kinds_any _ _ _ _ (by omega) (slAt_own hrows.1) (slAt_own hrows.2.1)).mono ?_; rintro e w2 ⟨v3, rfl, h3, hb2⟩))
  have h1 := slAt_below (slAt_own hrows.1) hb2
  have h2 := slAt_below (slAt_own hrows.2.1) hb2
  have hb1s := hb1.size
  have hbw : Below w.heap.size w w2 := ⟨hb2.os.trans hb1.os, hb2.tape.trans hb1.tape, hb2.output.trans hb1.output, Nat.le_trans hb1s hb2.size, fun k hk => (hb2.block k (by omega)).trans (hb1.block k hk)⟩
  clear hrows hb1 hb2 hb1s
  obtain ⟨o1, c1, rfl, h1⟩ := h1
  obtain ⟨o2, c2, rfl, h2⟩ := h2
  obtain ⟨o3, c3, rfl, h3⟩ := h3
  rw [startsOf_length, endsOf_length, kindsOf_length]
  have hle := fun k hk => line_end s k hk
  have hsub := fun k hk => line_ext s k hk
  have hsg := startsOf_get (linesL s.data.toList)
  have heg := endsOf_get (linesL s.data.toList)
  have hkg := kindsOf_get (linesL s.data.toList)
  have hfl := linesL_flatten s.data.toList
  have HPOST : Hid (∀ (r : ByteArray) (b : Bool) (w' : World), SecIs (linesL s.data.toList) h.data.toList r.data.toList b → Below w.heap.size w w' → SecPost w s h (.returned (.tuple #[.string r, .bool b])) w') := fun r b w' q1 q2 => ⟨r, b, rfl, q1, q2⟩
  generalize hP : SecPost w s h = Post at *
  generalize hL : linesL s.data.toList = L at *
  clear hL
  go_loopw [9, 10] (fun a i wr => ∃ (k q : Nat), k ≤ L.length ∧ a = .int .i64 (-1) ∧ i = .int .i64 k ∧ NoHit L h.data.toList k ∧ wr = w2.drewN q) (fun _ i _ => L.length - (intOf i).toNat)
  case atStart => exact ⟨0, 0, Nat.zero_le _, rfl, rfl, fun j hj => absurd hj (Nat.not_lt_zero _), rfl⟩
  case round =>
    obtain ⟨k, q, hk, rfl, rfl, hno, rfl⟩ := hrel
    by_cases hlt : k < L.length
    · obtain ⟨g1, rfl, hg1, hc1⟩ := slAt_at h1 k hlt (hsg k hlt)
      obtain ⟨g2, rfl, hg2, hc2⟩ := slAt_at h2 k hlt (heg k hlt)
      obtain ⟨g3, rfl, hg3, hc3⟩ := slAt_at h3 k hlt (hkg k hlt)
      have hend := hle k hlt
      have hln := hsub k hlt
      have HHIT : Hid (hit L h.data.toList k = ((kindI L k == 0) && (line L k == h.data.toList))) := by show _ = _; rw [kind_prose]; rfl
      have HNO : Hid (NoHit L h.data.toList k) := hno
      clear hno hg1 hg2 hg3
      generalize kindI L k = kd at *
      by_cases hq : line L k = h.data.toList
      · have hqt : ((s.extract (off L k) (off L k + (line L k).length)).toList == h.toList) = true := by rw [Lib.toList_data, Lib.toList_data, hln]; simpa using hq
        by_cases h0 : kd = 0
        · subst h0
          have HF : Hid (firstHit L h.data.toList k) := ⟨hlt, by rw [HHIT.out, hq]; simp, HNO.out⟩
          clear hq hln HHIT HNO
          by_cases hlast : k + 1 < L.length
          · have hc1' := slAt_at h1 (k + 1) hlast (hsg (k + 1) hlast)
            obtain ⟨g1', heq, _, hc1'⟩ := hc1'
            obtain rfl : g1 = g1' := by simpa using heq
            go_wp2
            go_quiet (fail)
            go_wp2_with (first | (go_at_call 15; refine (level_any _ _ hh).mono ?_; rintro e w' ⟨rfl, rfl⟩))
            have hos : off L (k + 1) ≤ s.size := by have := off_le L (k + 1); rwa [hfl, len_size] at this
            clear hc1 hc2 hc3 hqt hend heq hc1'
            generalize hlq : lev h.data.toList = lv at *
            go_loopw [13] (fun i wr => ∃ (j q : Nat), k < j ∧ j ≤ L.length ∧ i = .int .i64 j ∧ (∀ m, k < m → m < j → stopB L lv m = false) ∧ wr = w2.drewN q) (fun i _ => L.length - (intOf i).toNat)
            case atStart => exact ⟨k + 1, _, by omega, by omega, by go_num, fun m m1 m2 => by omega, rfl⟩
            case round =>
              obtain ⟨j, q, hkj, hjl, rfl, hst, hwr⟩ := hrel
              have HST : Hid (∀ m, k < m → m < j → stopB L lv m = false) := hst
              clear hst
              by_cases hj : j < L.length
              · obtain ⟨g1', heq1, _, hc1⟩ := slAt_at h1 j hj (hsg j hj)
                obtain rfl : g1 = g1' := by simpa using heq1
                obtain ⟨g2', heq2, _, hc2⟩ := slAt_at h2 j hj (heg j hj)
                obtain rfl : g2 = g2' := by simpa using heq2
                obtain ⟨g3', heq3, _, hc3⟩ := slAt_at h3 j hj (hkg j hj)
                obtain rfl : g3 = g3' := by simpa using heq3
                have hend := hle j hj
                replace hc1 : wr.cell? ⟨g1, j, none⟩ = some (.int .i64 (off L j : Int)) := by rw [hwr]; simpa using hc1
                replace hc2 : wr.cell? ⟨g2, j, none⟩ = some (.int .i64 ((off L j + (line L j).length : Nat) : Int)) := by rw [hwr]; simpa using hc2
                replace hc3 : wr.cell? ⟨g3, j, none⟩ = some (.int .i64 (kindI L j)) := by rw [hwr]; simpa using hc3
                have HWR : Hid (wr = w2.drewN q) := hwr
                clear hwr
                have hln := hsub j hj
                have hmon : off L (k + 1) ≤ off L j := off_mono L _ _ (by omega)
                have hjs : off L j ≤ s.size := by have := off_le L j; rwa [hfl, len_size] at this
                have hlv := fun wx => level_any (s.extract (off L j) (off L j + (line L j).length)) wx (by rw [← len_size, hln]; omega)
                rw [hln] at hlv
                have HSTOP : Hid (stopB L lv j = ((kindI L j == 0) && decide (0 < lev (line L j)) && decide (lev (line L j) ≤ lv))) := by show _ = _; rw [kind_prose]; rfl
                clear hle hsub hsg heg hkg h1 h2 h3 heq1 heq2 heq3 hln
                have hse : off L j ≤ off L j + (line L j).length := Nat.le_add_right _ _
                generalize off L j + (line L j).length = e2 at *
                have HNEXT : Hid (stopB L lv j = false → ∀ m, k < m → m < j + 1 → stopB L lv m = false) := fun e m m1 m2 => by
                  by_cases em : m = j
                  · rw [em]; exact e
                  · exact HST.out m m1 (by omega)
                generalize kindI L j = kd at *
                generalize lev (line L j) = lj at *
                by_cases hd : kd = 0
                · subst hd
                  by_cases hp : 0 < lj
                  · by_cases hp2 : lj ≤ lv
                    · have HS : Hid (stopB L lv j = true) := by show _ = _; rw [HSTOP.out]; simp [hp, hp2]
                      go_wp2
                      go_quiet (first | (go_at_call 15; exact Calls.quiet_of_same (hlv _)))
                      go_wp2
                      try go_ret2
                      subst hlq
                      refine HPOST.out (s.extract (off L (k + 1)) (off L j)) true _ (.inr ⟨rfl, k, HF.out, .inl ⟨j, hkj, hj, HS.out, HST.out, ?_⟩⟩) (below_drewN' (HWR.out ▸ below_drewN' hbw _) _)
                      rw [Lib.extract_data, hfl]
                    · have HS : Hid (stopB L lv j = false) := by show _ = _; rw [HSTOP.out]; simp [hp2]
                      go_wp2
                      go_quiet (first | (go_at_call 15; exact Calls.quiet_of_same (hlv _)))
                      go_wp2
                      go_roundw
                      case rel => exact ⟨j + 1, _, by omega, by omega, by go_num, HNEXT.out HS.out, by rw [HWR.out, World.drewN_drewN]⟩
                      case measure => simp [intOf]; omega
                  · have HS : Hid (stopB L lv j = false) := by show _ = _; rw [HSTOP.out]; simp [hp]
                    go_wp2
                    go_quiet (first | (go_at_call 15; exact Calls.quiet_of_same (hlv _)))
                    go_wp2
                    go_roundw
                    case rel => exact ⟨j + 1, _, by omega, by omega, by go_num, HNEXT.out HS.out, by rw [HWR.out, World.drewN_drewN]⟩
                    case measure => simp [intOf]; omega
                · have hd' : (kd == 0) = false := by simpa using hd
                  have hd2 : (kd != 0) = true := by simpa using hd
                  have HS : Hid (stopB L lv j = false) := by show _ = _; rw [HSTOP.out, hd']; rfl
                  go_wp2
                  go_roundw
                  case rel => exact ⟨j + 1, _, by omega, by omega, by go_num, HNEXT.out HS.out, HWR.out⟩
                  case measure => simp [intOf]; omega
              · obtain rfl : j = L.length := by omega
                clear hle hsub hsg heg hkg h1 h2 h3
                subst hwr
                go_wp2
                try go_ret2
                subst hlq
                refine HPOST.out (s.extract (off L (k + 1)) s.size) true _ (.inr ⟨rfl, k, HF.out, .inr ⟨HST.out, ?_⟩⟩) (below_drewN' hbw _)
                rw [Lib.extract_to_end, hfl]
          · have hon : off L (k + 1) = s.size := by rw [off_last L _ (by omega), hfl, len_size]
            clear hle hsub hsg heg hkg h1 h2 h3
            go_wp2
            go_quiet (fail)
            go_wp2_with (first | (go_at_call 15; refine (level_any _ _ hh).mono ?_; rintro e w' ⟨rfl, rfl⟩))
            go_loopw [13] (fun i wr => ∃ (q : Nat), i = .int .i64 ((k + 1 : Nat) : Int) ∧ wr = w2.drewN q) (fun _ _ => 0)
            case atStart => exact ⟨_, by go_num, rfl⟩
            case round =>
              obtain ⟨q, rfl, rfl⟩ := hrel
              go_wp2
              try go_ret2
              refine HPOST.out ByteArray.empty true _ (.inr ⟨rfl, k, HF.out, .inr ⟨fun j j1 j2 => by omega, ?_⟩⟩) (below_drewN' hbw _)
              rw [hon, hfl, ← len_size, List.drop_length]
              rfl
        · have h0' : (kd == 0) = false := by simpa using h0
          have HH : Hid (hit L h.data.toList k = false) := by show _ = _; rw [HHIT.out, h0', Bool.false_and]
          clear hq hln hle hsub hsg heg hkg h1 h2 h3 hfl
          have HN1 : Hid (NoHit L h.data.toList (k + 1)) := fun j hj => by
            by_cases e : j = k
            · rw [e]; exact HH.out
            · exact HNO.out j (by omega)
          go_wp2
          go_quiet (fail)
          go_wp2
          go_roundw
          case rel => exact ⟨k + 1, _, by omega, rfl, by go_num, HN1.out, rfl⟩
          case measure => simp [intOf]; omega
      · have hqt : ((s.extract (off L k) (off L k + (line L k).length)).toList == h.toList) = false := by rw [Lib.toList_data, Lib.toList_data, hln]; simpa using hq
        have HH : Hid (hit L h.data.toList k = false) := by show _ = _; rw [HHIT.out, beq_eq_false_iff_ne.2 hq, Bool.and_false]
        clear hq hln hle hsub hsg heg hkg h1 h2 h3 hfl
        have HN1 : Hid (NoHit L h.data.toList (k + 1)) := fun j hj => by
          by_cases e : j = k
          · rw [e]; exact HH.out
          · exact HNO.out j (by omega)
        by_cases h0 : kd = 0
        · subst h0
          go_wp2
          go_quiet (fail)
          go_wp2
          go_roundw
          case rel => exact ⟨k + 1, _, by omega, rfl, by go_num, HN1.out, rfl⟩
          case measure => simp [intOf]; omega
        · have h0' : (kd == 0) = false := by simpa using h0
          go_wp2
          go_quiet (fail)
          go_wp2
          go_roundw
          case rel => exact ⟨k + 1, _, by omega, rfl, by go_num, HN1.out, rfl⟩
          case measure => simp [intOf]; omega
    · obtain rfl : k = L.length := by omega
      have HNO : Hid (NoHit L h.data.toList L.length) := hno
      clear hno hle hsub hsg heg hkg h1 h2 h3 hfl
      go_wp2
      try go_ret2
      exact HPOST.out ⟨#[]⟩ false _ (.inl ⟨rfl, rfl, HNO.out⟩) (below_drewN' hbw _)
end Go.Proofs.Qxb6601375aDoor
