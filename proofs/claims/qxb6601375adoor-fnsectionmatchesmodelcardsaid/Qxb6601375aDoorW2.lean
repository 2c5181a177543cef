import Derived.Test.Qxb6601375aDoorW1
import Derived.Test.Qxb6601375aDoorP2
import Derived.Deep.AppendLies
import Derived.Maps.AppendAt
namespace Go.Proofs.Qxb6601375aDoor
open Go.RowKit

theorem Tryd.info3 : (Tryd.prog.info? 3).map (fun i => (i.zero, i.size, i.bytes)) = some (some (.int .i64 0), 1, 8) := by kernel_rfl

/-- the two slices of zzLineBounds, apart from each other -/
def Rows2 (N : Nat) (wr : World) (v4 v5 : Value) (pre : List (List UInt8)) : Prop :=
  wr.ownsRow N 3 1 v4 pre.length ((startsOf pre).map (Value.int .i64)) ∧ wr.ownsRow N 3 1 v5 pre.length ((endsOf pre).map (Value.int .i64)) ∧ (v4.ownBlock = none ∨ v4.ownBlock ≠ v5.ownBlock)

theorem rows_mid {N : Nat} {wr w1 : World} {v4 v5 : Value} {pre : List (List UInt8)} {o4 : Obj} (h : Rows2 N wr v4 v5 pre) (hgrow4 : (wr.alloc o4).grownBy w1 v4.ownBlock) :
    w1.ownsRow N 3 1 v5 pre.length ((endsOf pre).map (Value.int .i64)) := by
  refine (h.2.1.alloc o4).kept hgrow4 ?_
  rcases h.2.2 with h' | h'
  · cases hv : v5.ownBlock
    · exact .inl rfl
    · exact .inr (by rw [h']; simp)
  · exact .inr (fun e => h' e.symm)
theorem rows_step {N : Nat} {wr w1 w2 : World} {v4 v5 : Value} {pre : List (List UInt8)} {x : List UInt8} {o4 o5 : Obj} {g4 c4 g5 c5 : Nat} (h : Rows2 N wr v4 v5 pre)
    (hown4 : w1.ownsRow N 3 1 (.slice (some ⟨g4, 0, none⟩) (pre.length + 1) c4) (pre.length + 1) ((startsOf pre).map (Value.int .i64) ++ [.int .i64 (off pre pre.length)])) (_hgrow4 : (wr.alloc o4).grownBy w1 v4.ownBlock)
    (hat4 : v4.ownBlock = some g4 ∨ g4 = wr.heap.size + 1) (hlt4 : g4 < w1.heap.size)
    (hown5 : w2.ownsRow N 3 1 (.slice (some ⟨g5, 0, none⟩) (pre.length + 1) c5) (pre.length + 1) ((endsOf pre).map (Value.int .i64) ++ [.int .i64 ((off pre pre.length + (bare x).length : Nat) : Int)])) (hgrow5 : (w1.alloc o5).grownBy w2 v5.ownBlock)
    (hat5 : v5.ownBlock = some g5 ∨ g5 = w1.heap.size + 1) :
    Rows2 N w2 (.slice (some ⟨g4, 0, none⟩) (pre.length + 1) c4) (.slice (some ⟨g5, 0, none⟩) (pre.length + 1) c5) (pre ++ [x]) := by
  have hne : v5.ownBlock ≠ some g4 := by
    intro e
    rcases hat4 with h4 | h4
    · rcases h.2.2 with h' | h'
      · rw [h'] at h4; cases h4
      · exact h' (h4.trans e.symm)
    · have := (h.2.1.lt g4 e).2
      omega
  refine ⟨?_, ?_, .inr ?_⟩
  · rw [startsOf_app, List.map_append, List.length_append]
    exact (hown4.alloc o5).kept hgrow5 (.inr (fun e => hne e.symm))
  · rw [endsOf_app, List.map_append, List.length_append]
    exact hown5
  · show some g4 ≠ some g5
    rcases hat5 with h5 | h5
    · rw [← h5]; exact fun e => hne e.symm
    · intro e; cases e; omega

theorem rows_below {w wr w1 w2 : World} {v4 v5 : Value} {pre : List (List UInt8)} {o4 o5 : Obj} (h : Rows2 w.heap.size wr v4 v5 pre) (hb : Below w.heap.size w wr)
    (hgrow4 : (wr.alloc o4).grownBy w1 v4.ownBlock) (hgrow5 : (w1.alloc o5).grownBy w2 v5.ownBlock) : Below w.heap.size w w2 := by
  have hbs := hb.size
  have hs1 := hgrow4.size
  simp only [World.size_alloc] at hs1
  have hm := rows_mid h hgrow4
  refine ((((hb.alloc hbs o4).grown hgrow4 (by simp only [World.size_alloc]; omega) ?_).alloc (by omega) o5).grown hgrow5 (by simp only [World.size_alloc]; omega) ?_)
  · exact fun k e => (h.1.lt k e).1
  · exact fun k e => (hm.lt k e).1

set_option maxHeartbeats 1000000 in
theorem bounds_any (s : ByteArray) (w : World) (hs : s.size ≤ 1048576) :
    Calls Tryd.prog 13 #[.string s] w fun e w' => ∃ v4 v5, e = .returned (.tuple #[v4, v5]) ∧ Rows2 w.heap.size w' v4 v5 (linesL s.data.toList) ∧ Below w.heap.size w w' := by
  obtain ⟨i0, hi, hz0, hz1, hz2⟩ := info_parts Tryd.info3
  go_enter Tryd.func13, Tryd.ntmps13
  go_wp2
  go_loopw [4, 5, 6, 7] (fun a4 a5 a6 a7 wr => ∃ (k : Nat) (pre : List (List UInt8)) (cur : List UInt8), k ≤ s.size ∧ a7 = .int .i64 k ∧ a6 = .int .i64 (off pre pre.length) ∧ Scan s.data.toList k pre cur ∧ Rows2 w.heap.size wr a4 a5 pre ∧ Below w.heap.size w wr) (fun _ _ _ i _ => s.size - (intOf i).toNat)
  case atStart => exact ⟨0, [], [], Nat.zero_le _, rfl, rfl, scan_zero _, ⟨World.ownsRow_nil _ _ _ _, World.ownsRow_nil _ _ _ _, .inl rfl⟩, Below.refl _ _⟩
  case round =>
    obtain ⟨k, pre, cur, hk, rfl, rfl, hsc, hrow, hb⟩ := hrel
    have hcnt := scan_count hsc
    rw [len_size] at hcnt
    have hln := scan_len hsc (by rw [len_size]; exact hk)
    have hbs := hb.size
    by_cases hlt : k < s.size
    · have HG : Hid (s.data.toList[k]'(by rw [len_size]; exact hlt) = s[k]) := rfl
      by_cases hc : (s[k].toNat : Int) = 10
      · have hc' : ((s[k].toNat : Int) == 10) = true := by simpa using hc
        have HC : Hid (s[k] = 10) := UInt8.toNat_inj.1 (by show _ = 10; omega)
        clear hc
        have HSC : Hid (Scan s.data.toList k pre cur) := hsc
        have hpl : off pre pre.length + cur.length = k := hln
        clear hsc hln
        go_wp2_with (first
          | (at_builtin; refine wpList_append_lies _ rfl (.tmp 18) (.tmp 20) 32 rfl w.heap.size 3 i0 (.int .i64 0) 1 8 Tryd.underlying32 hi hz0 hz1 hz2 rfl (by decide) _ _ _ rfl (hrow.1.alloc _) ⟨wr.heap.size, 0, none⟩ 1 1 [.int .i64 (off pre pre.length)] rfl rfl (cell_one_new _ _ _) (by simp [Value.oneCell']) (by decide) (by unfold maxLen; omega) (by omega) (by simp only [World.size_alloc]; omega) _ rfl ?_; intro g4 c4 w1 hown4 hgrow4 hat4 hlt4; have hmid := rows_mid hrow hgrow4; have hgs := hgrow4.size; simp only [World.size_alloc] at hgs)
          | (at_builtin; refine wpList_append_lies _ rfl (.tmp 22) (.tmp 24) 32 rfl w.heap.size 3 i0 (.int .i64 0) 1 8 Tryd.underlying32 hi hz0 hz1 hz2 rfl (by decide) _ _ _ rfl (hmid.alloc _) ⟨w1.heap.size, 0, none⟩ 1 1 [.int .i64 k] rfl rfl (cell_one_new _ _ _) (by simp [Value.oneCell']) (by decide) (by unfold maxLen; omega) (by omega) (by simp only [World.size_alloc]; omega) _ rfl ?_; intro g5 c5 w2 hown5 hgrow5 hat5 hlt5))
        go_round
        case rel =>
          refine ⟨k + 1, pre ++ [cur ++ [10]], [], by omega, by go_num, ?_, scan_nl HSC.out (by rw [len_size]; exact hlt) (by rw [HG.out, HC.out]), ?_, rows_below hrow hb hgrow4 hgrow5⟩
          · have e : off (pre ++ [cur ++ [10]]) (pre ++ [cur ++ [10]]).length = k + 1 := by
              rw [List.length_append, List.length_singleton, off_succ _ _ (by simp), off_app _ _ _ (Nat.le_refl _)]
              simp
              omega
            rw [e]
            go_num
          · have hb10 : (bare (cur ++ [10])).length = cur.length := by rw [bare_nl]
            exact rows_step hrow hown4 hgrow4 (hat4.elim .inl fun e => .inr (by simpa using e)) hlt4 (by rw [hb10, hpl]; exact hown5) hgrow5 (hat5.elim .inl fun e => .inr (by simpa using e))
        case measure => simp [intOf]; omega
      · have hc' : ((s[k].toNat : Int) == 10) = false := by simpa using hc
        have HC : Hid (s[k] ≠ 10) := by rintro e; rw [e] at hc; exact hc rfl
        clear hc
        have HSC : Hid (Scan s.data.toList k pre cur) := hsc
        clear hsc hln
        go_wp2
        go_round
        case rel => exact ⟨k + 1, pre, cur ++ [s[k]], by omega, by go_num, rfl, scan_no HSC.out (by rw [len_size]; exact hlt) (by rw [HG.out]; exact HC.out), hrow, hb⟩
        case measure => simp [intOf]; omega
    · obtain rfl : k = s.size := by omega
      have HEND : Hid (linesL s.data.toList = if cur = [] then pre else pre ++ [cur]) := scan_end (by rw [len_size]; exact hsc)
      have HNO : Hid (∀ b ∈ cur, b ≠ 10) := hsc.2.2
      clear hsc
      by_cases hcur : cur.length = 0
      · have hst : off pre pre.length = s.size := by omega
        rw [hst]
        go_wp2
        go_ret2
        refine ⟨_, _, rfl, ?_, hb⟩
        rw [HEND.out, if_pos (List.length_eq_zero_iff.1 hcur)]
        exact hrow
      · have hst : off pre pre.length < s.size := by omega
        have hpl : off pre pre.length + cur.length = s.size := hln
        clear hln
        go_wp2_with (first
          | (at_builtin; refine wpList_append_lies _ rfl (.tmp 32) (.tmp 34) 32 rfl w.heap.size 3 i0 (.int .i64 0) 1 8 Tryd.underlying32 hi hz0 hz1 hz2 rfl (by decide) _ _ _ rfl (hrow.1.alloc _) ⟨wr.heap.size, 0, none⟩ 1 1 [.int .i64 (off pre pre.length)] rfl rfl (cell_one_new _ _ _) (by simp [Value.oneCell']) (by decide) (by unfold maxLen; omega) (by omega) (by simp only [World.size_alloc]; omega) _ rfl ?_; intro g4 c4 w1 hown4 hgrow4 hat4 hlt4; have hmid := rows_mid hrow hgrow4; have hgs := hgrow4.size; simp only [World.size_alloc] at hgs)
          | (at_builtin; refine wpList_append_lies _ rfl (.tmp 36) (.tmp 39) 32 rfl w.heap.size 3 i0 (.int .i64 0) 1 8 Tryd.underlying32 hi hz0 hz1 hz2 rfl (by decide) _ _ _ rfl (hmid.alloc _) ⟨w1.heap.size, 0, none⟩ 1 1 [.int .i64 s.size] rfl rfl (cell_one_new _ _ _) (by simp [Value.oneCell']) (by decide) (by unfold maxLen; omega) (by omega) (by simp only [World.size_alloc]; omega) _ rfl ?_; intro g5 c5 w2 hown5 hgrow5 hat5 hlt5))
        go_ret2
        refine ⟨_, _, rfl, ?_, rows_below hrow hb hgrow4 hgrow5⟩
        rw [HEND.out, if_neg (fun e => hcur (by rw [e]; rfl))]
        exact rows_step hrow hown4 hgrow4 (hat4.elim .inl fun e => .inr (by simpa using e)) hlt4 (by rw [bare_no HNO.out, hpl]; exact hown5) hgrow5 (hat5.elim .inl fun e => .inr (by simpa using e))
end Go.Proofs.Qxb6601375aDoor
