import Derived.Test.Qxb6601693aDoorB2
import Derived.Sort.Walk0
namespace Go.Proofs.Qxb6601693aDoor
open Go.RowKit

/-- block g holds cap cells, the first m of which are the strings of L -/
def RowS (w : World) (g cap m : Nat) (L : Nat → ByteArray) : Prop := ∃ cur, w.heap[g]? = some (.cells cur 9 (0, 0)) ∧ cur.size = cap ∧ ∀ j, j < m → cur[j]? = some (.string (L j))
theorem RowS.cell {w : World} {g cap m : Nat} {L : Nat → ByteArray} (h : RowS w g cap m L) {j : Nat} (hj : j < m) : w.cell? ⟨g, j, none⟩ = some (.string (L j)) := by
  obtain ⟨cur, h1, _, h3⟩ := h
  rw [cell_of_row w g j cur 9 _ h1]
  exact h3 j hj
theorem RowS.frozen {w : World} {g cap m : Nat} {L : Nat → ByteArray} (h : RowS w g cap m L) (j : Nat) : w.frozen? ⟨g, j, none⟩ = false := by
  obtain ⟨cur, h1, _⟩ := h
  exact frozen_of_row w g j cur 9 h1
theorem RowS.set {w : World} {g cap m : Nat} {L L' : Nat → ByteArray} (h : RowS w g cap m L) (j : Nat) (x : ByteArray) (hL : ∀ i, i < m → L' i = if i = j then x else L i) : RowS (w.setCell ⟨g, j, none⟩ (.string x)) g cap m L' := by
  obtain ⟨cur, h1, h2, h3⟩ := h
  refine ⟨_, heap_setCell_same w g j cur 9 _ h1, by simp [h2], fun i hi => ?_⟩
  have hi' := h3 i hi
  have hlt := (Array.getElem?_eq_some_iff.1 hi').1
  rw [hL i hi, Array.getElem?_setIfInBounds]
  by_cases e : i = j
  · subst e
    rw [if_pos rfl, if_pos hlt, if_pos rfl]
  · rw [if_neg (Ne.symm e), if_neg e]
    exact hi'
theorem RowS.own {w : World} {base g cap : Nat} {L : Nat → ByteArray} {ss : List ByteArray} (h : RowS w g cap ss.length L) (hb : base ≤ g) (hc : ss.length ≤ cap) (hm : cap ≤ maxLen) (hL : ∀ j, j < ss.length → L j = ss.getD j ByteArray.empty) : OwnStr base w (.slice (some ⟨g, 0, none⟩) ss.length cap) ss := by
  obtain ⟨cur, h1, h2, h3⟩ := h
  refine ⟨by simp, .inr ⟨g, cap, cur, rfl, hb, h1, hc, hm, by rw [h2, Nat.mul_one], ?_⟩⟩
  refine List.ext_getElem? fun j => ?_
  rw [List.getElem?_take, Nat.mul_one]
  by_cases hj : j < ss.length
  · rw [if_pos hj, strs_getD ss hj, ← hL j hj]
    have := h3 j hj
    simpa using this
  · rw [if_neg hj, List.getElem?_eq_none (by simpa using hj)]
theorem OwnStr.row {base : Nat} {w : World} {v : Value} {ss : List ByteArray} (h : OwnStr base w v ss) (h0 : 0 < ss.length) : ∃ g cap, v = .slice (some ⟨g, 0, none⟩) ss.length cap ∧ base ≤ g ∧ ss.length ≤ cap ∧ cap ≤ maxLen ∧ RowS w g cap ss.length (fun j => ss.getD j ByteArray.empty) := by
  rcases h.2 with ⟨rfl, hn⟩ | ⟨g, cap, cur, rfl, hb, hg, h1, h2, h3, h4⟩
  · omega
  · refine ⟨g, cap, rfl, hb, h1, h2, cur, hg, by omega, fun j hj => ?_⟩
    have := strs_getD ss hj
    rw [← h4, List.getElem?_take, if_pos (by omega)] at this
    simpa using this
theorem grown_set {w w' : World} {g : Nat} (h : w.grownBy w' (some g)) (j : Nat) (v : Value) : w.grownBy (w'.setCell ⟨g, j, none⟩ v) (some g) :=
  ⟨h.os, h.tape, h.output, by simpa using h.size, fun k hk hne => (set_other (fun e => hne (by rw [e]))).trans (h.block k hk hne)⟩
theorem grown_refl (w : World) (r : Option Nat) : w.grownBy w r := ⟨rfl, rfl, rfl, Nat.le_refl _, fun _ _ _ => rfl⟩

/-- zzInsertSorted on strings -/
def insB (ss : List ByteArray) (x : ByteArray) : List ByteArray := (ins (ss.map toL) (toL x)).map ofL
theorem map_getD_toL (ss : List ByteArray) (j : Nat) (hj : j < ss.length) : (ss.map toL).getD j [] = toL (ss.getD j ByteArray.empty) := by
  rw [List.getD_eq_getElem?_getD, List.getElem?_map, List.getElem?_eq_getElem hj, List.getD_eq_getElem?_getD, List.getElem?_eq_getElem hj]
  rfl
theorem less_toL (a b : ByteArray) : Op.bytesLess a.toList b.toList = decide (toL a < toL b) := by
  rw [bytesLess_eq, Lib.toList_data, Lib.toList_data]
  rfl
theorem headB {ss : List ByteArray} {x : ByteArray} {p : Nat} (hp : p ≤ ss.length) (h1 : ∀ j, j < p → Op.bytesLess (ss.getD j ByteArray.empty).toList x.toList = true) (h2 : p < ss.length → Op.bytesLess (ss.getD p ByteArray.empty).toList x.toList = false) : p = headLt (toL x) (ss.map toL) := by
  refine headLt_eq (by simpa using hp) (fun j hj => ?_) (fun hlt => ?_)
  · rw [map_getD_toL ss j (by omega)]
    have := h1 j hj
    rw [less_toL] at this
    exact of_decide_eq_true this
  · rw [map_getD_toL ss p (by simpa using hlt)]
    have := h2 (by simpa using hlt)
    rw [less_toL] at this
    exact of_decide_eq_false this
theorem toL_inj {a b : ByteArray} (h : toL a = toL b) : a = b := by
  have := congrArg ofL h
  rwa [ofL_toL, ofL_toL] at this
theorem insB_same {ss : List ByteArray} {x : ByteArray} {p : Nat} (hp : p < ss.length) (h1 : ∀ j, j < p → Op.bytesLess (ss.getD j ByteArray.empty).toList x.toList = true) (h2 : Op.bytesLess (ss.getD p ByteArray.empty).toList x.toList = false) (he : ((ss.getD p ByteArray.empty).toList == x.toList) = true) : insB ss x = ss := by
  have e := headB (Nat.le_of_lt hp) h1 (fun _ => h2)
  unfold insB ins
  rw [← e, if_pos ⟨by simpa using hp, by
    rw [map_getD_toL ss p hp]
    rw [list_eq_iff] at he
    rw [of_decide_eq_true he]⟩]
  exact map_ofL_toL ss
theorem insB_new {ss : List ByteArray} {x : ByteArray} {p : Nat} (hp : p ≤ ss.length) (h1 : ∀ j, j < p → Op.bytesLess (ss.getD j ByteArray.empty).toList x.toList = true) (h2 : p < ss.length → Op.bytesLess (ss.getD p ByteArray.empty).toList x.toList = false) (he : p < ss.length → ((ss.getD p ByteArray.empty).toList == x.toList) = false) : insB ss x = ss.take p ++ x :: ss.drop p := by
  have e := headB hp h1 h2
  unfold insB ins
  rw [← e, if_neg (fun hc => ?_)]
  · rw [List.map_append, List.map_cons, List.map_take, List.map_drop, map_ofL_toL]
    rfl
  · have hlt : p < ss.length := by simpa using hc.1
    have h3 := he hlt
    rw [list_eq_iff] at h3
    have h4 := hc.2
    rw [map_getD_toL ss p hlt] at h4
    exact of_decide_eq_false h3 (toL_inj h4)
theorem insB_getD (ss : List ByteArray) (x : ByteArray) {p : Nat} (hp : p ≤ ss.length) (j : Nat) : (ss.take p ++ x :: ss.drop p).getD j ByteArray.empty = if j < p then ss.getD j ByteArray.empty else if j = p then x else ss.getD (j - 1) ByteArray.empty := by
  simp only [List.getD_eq_getElem?_getD]
  have hlen : (ss.take p).length = p := by rw [List.length_take]; omega
  by_cases h1 : j < p
  · rw [if_pos h1, List.getElem?_append_left (by omega), List.getElem?_take, if_pos h1]
  · rw [if_neg h1, List.getElem?_append_right (by omega), hlen]
    by_cases h2 : j = p
    · rw [if_pos h2, h2, Nat.sub_self]; rfl
    · rw [if_neg h2, show j - p = (j - 1 - p) + 1 by omega, List.getElem?_cons_succ, List.getElem?_drop, show p + (j - 1 - p) = j - 1 by omega]
theorem insB_length (ss : List ByteArray) (x : ByteArray) {p : Nat} (hp : p ≤ ss.length) : (ss.take p ++ x :: ss.drop p).length = ss.length + 1 := by
  simp
  omega
theorem snoc_getD (ss : List ByteArray) (x : ByteArray) (j : Nat) (hj : j < ss.length) : (ss ++ [x]).getD j ByteArray.empty = ss.getD j ByteArray.empty := by
  rw [List.getD_eq_getElem?_getD, List.getElem?_append_left hj, ← List.getD_eq_getElem?_getD]

/-- what the moving loop leaves at q -/
def movL (ss : List ByteArray) (q : Nat) : Nat → ByteArray := fun j => if j ≤ q then (ss ++ [ByteArray.empty]).getD j ByteArray.empty else ss.getD (j - 1) ByteArray.empty
theorem movL_step (ss : List ByteArray) (q : Nat) (hq : q + 1 ≤ ss.length) (i : Nat) (hi : i < ss.length + 1) : movL ss q i = if i = q + 1 then movL ss (q + 1) q else movL ss (q + 1) i := by
  unfold movL
  by_cases e : i = q + 1
  · subst e
    rw [if_pos rfl, if_neg (by omega), if_pos (by omega), snoc_getD ss _ q (by omega), Nat.add_sub_cancel]
  · rw [if_neg e]
    by_cases h : i ≤ q
    · rw [if_pos h, if_pos (by omega)]
    · rw [if_neg h, if_neg (by omega)]
theorem movL_end (ss : List ByteArray) (x : ByteArray) {p : Nat} (hp : p ≤ ss.length) (j : Nat) (hj : j < ss.length + 1) : (ss.take p ++ x :: ss.drop p).getD j ByteArray.empty = if j = p then x else movL ss p j := by
  rw [insB_getD ss x hp j]
  unfold movL
  by_cases h2 : j = p
  · rw [if_neg (by omega), if_pos h2, if_pos h2]
  · rw [if_neg h2, if_neg h2]
    by_cases h1 : j < p
    · rw [if_pos h1, if_pos (by omega), snoc_getD ss _ j (by omega)]
    · rw [if_neg h1, if_neg (by omega)]

def InsPost (base : Nat) (w : World) (r : Option Nat) (ss : List ByteArray) (x : ByteArray) (e : Ending) (w' : World) : Prop :=
  ∃ v', e = .returned v' ∧ OwnStr base w' v' (insB ss x) ∧ w.grownBy w' r ∧ (v'.ownBlock = r ∨ ∃ g, v'.ownBlock = some g ∧ w.heap.size ≤ g)
theorem ins_post {base : Nat} {w w1 wr : World} {r : Option Nat} {ss : List ByteArray} {x : ByteArray} {p g cap n : Nat} (hn : ss.length = n) (hp : p ≤ n) (hE : insB ss x = ss.take p ++ x :: ss.drop p) (hb : base ≤ g) (hc : n + 1 ≤ cap) (hm : cap ≤ maxLen) (hrow : RowS wr g cap (n + 1) (movL ss p)) (hg1 : w.grownBy w1 r) (hg2 : w1.grownBy wr (some g)) (hat : some g = r ∨ w.heap.size ≤ g) :
    InsPost base w r ss x (.returned (.slice (some ⟨g, 0, none⟩) (n + 1) cap)) (wr.setCell ⟨g, p, none⟩ (.string x)) := by
  subst hn
  have hl := insB_length ss x hp
  have hr2 : RowS (wr.setCell ⟨g, p, none⟩ (.string x)) g cap (ss.take p ++ x :: ss.drop p).length (fun j => (ss.take p ++ x :: ss.drop p).getD j ByteArray.empty) := by
    rw [hl]
    exact hrow.set p x fun i hi => movL_end ss x hp i hi
  have ho := hr2.own hb (by rw [hl]; exact hc) hm (fun _ _ => rfl)
  rw [hl, ← hE] at ho
  have hgs := grown_set hg2 p (.string x)
  refine ⟨_, rfl, ho, ⟨hgs.os.trans hg1.os, hgs.tape.trans hg1.tape, hgs.output.trans hg1.output, Nat.le_trans hg1.size hgs.size, fun k hk hne => (hgs.block k (Nat.lt_of_lt_of_le hk hg1.size) (fun e => ?_)).trans (hg1.block k hk hne)⟩, ?_⟩
  · rcases hat with h | h
    · exact hne (e.trans h)
    · cases e
      omega
  · rcases hat with h | h
    · exact .inl h
    · exact .inr ⟨g, rfl, h⟩
theorem str_new (w : World) (x : ByteArray) (t : Nat) : StrAt (w.alloc (.cells #[.string x] t)) (.slice (some ⟨w.heap.size, 0, none⟩) 1 1) [x] := by
  refine ⟨_, _, rfl, Nat.le_refl _, fun _ => ⟨w.heap.size, 0, rfl, fun i hi => ?_⟩⟩
  have : i = 0 := by simpa using hi
  subst this
  rw [Nat.zero_add, cell_of_row _ _ 0 _ _ _ (heap_alloc_new w _)]
  rfl
theorem OwnStr.alloc {base : Nat} {w : World} {v : Value} {ss : List ByteArray} (h : OwnStr base w v ss) (o : Obj) : OwnStr base (w.alloc o) v ss := h.move fun g hg => (World.grownBy_alloc w o none).block g (h.lt hg).2 (by simp)

set_option maxHeartbeats 4000000 in
set_option maxRecDepth 100000 in
theorem insert_any (base : Nat) (v : Value) (ss : List ByteArray) (x : ByteArray) (w : World) (h : OwnStr base w v ss) (hl : ss.length ≤ 1099511627776) (hbase : base ≤ w.heap.size) :
    Calls Tryd.prog 28 #[v, .string x] w (InsPost base w v.ownBlock ss x) := by
  obtain ⟨o, c, rfl, h1, h2⟩ := h.at
  have HC : Hid (0 < ss.length → ∃ b f, o = some ⟨b, f, none⟩ ∧ ∀ i, i < ss.length → w.cell? ⟨b, f + i, none⟩ = some (.string (ss.getD i ByteArray.empty))) := h2
  clear h2
  obtain ⟨n, HN⟩ : ∃ n, Hid (ss.length = n) := ⟨_, rfl⟩
  have HOWN : Hid (OwnStr base w (.slice o ss.length c) ss) := h
  clear h
  rw [HN.out] at HC h1 hl HOWN ⊢
  obtain ⟨r, HR⟩ : ∃ r, Hid ((Value.slice o n c).ownBlock = r) := ⟨_, rfl⟩
  rw [HR.out]
  have HOWN1 : Hid (OwnStr base (w.alloc (.cells #[.string ⟨#[]⟩] 9)) (.slice o n c) ss) := HOWN.out.alloc _
  have HBASE1 : Hid (base ≤ (w.alloc (.cells #[.string ⟨#[]⟩] 9)).heap.size) := by
    show base ≤ (w.alloc (.cells #[.string ⟨#[]⟩] 9)).heap.size
    rw [World.size_alloc]
    omega
  have HSIZE1 : Hid ((w.alloc (.cells #[.string ⟨#[]⟩] 9)).heap.size = w.heap.size + 1) := World.size_alloc _ _
  have HGROW1 : Hid (w.grownBy (w.alloc (.cells #[.string ⟨#[]⟩] 9)) r) := World.grownBy_alloc w _ r
  go_enter Tryd.func28, Tryd.ntmps28
  go_wp2
  go_loop [5] (fun i => ∃ k : Nat, k ≤ n ∧ i = .int .i64 k ∧ ∀ j, j < k → Op.bytesLess (ss.getD j ByteArray.empty).toList x.toList = true) (fun i => n - (intOf i).toNat)
  case atStart => exact ⟨0, Nat.zero_le _, rfl, fun j hj => absurd hj (Nat.not_lt_zero _)⟩
  case round =>
    obtain ⟨k, hk, rfl, hall⟩ := hrel
    have HALL : Hid (∀ j, j < k → Op.bytesLess (ss.getD j ByteArray.empty).toList x.toList = true) := hall
    clear hall
    by_cases hlt : k < n
    · obtain ⟨b, f, eo, hc⟩ := HC.out (by omega)
      have hcell := hc k hlt
      obtain ⟨y, HY⟩ : ∃ y, Hid (ss.getD k ByteArray.empty = y) := ⟨_, rfl⟩
      rw [HY.out] at hcell
      clear hc HC
      cases hq : Op.bytesLess y.toList x.toList
      · cases hq2 : (y.toList == x.toList)
        · have HE : Hid (insB ss x = ss.take k ++ x :: ss.drop k) := insB_new (by rw [HN.out]; exact hk) HALL.out (fun _ => by rw [HY.out]; exact hq) (fun _ => by rw [HY.out]; exact hq2)
          clear HALL HY
          subst eo
          go_wp2_with (at_builtin; refine wpList_append_strs rfl _ _ rfl base (.slice (some ⟨b, f, none⟩) n c) _ ss [⟨#[]⟩] rfl rfl HOWN1.out (str_new w _ 9) (by rw [HN.out]; simp; omega) HBASE1.out ?_; intro o' n' c' w1 hn' hown1 hgrow1 hat1; have HE1 : Hid (n' = n + 1) := (by show n' = n + 1; rw [hn', HN.out]; rfl); have hrow1 := hown1.row (by simp); obtain ⟨g, cap, ev, hbg, hcap, hmax, hrw⟩ := hrow1; have hlen1 : (ss ++ [(⟨#[]⟩ : ByteArray)]).length = n + 1 := (by rw [List.length_append, HN.out]; rfl); rw [hlen1] at ev hcap hrw; have HRW : Hid (RowS w1 g cap (n + 1) (movL ss n)) := ⟨hrw.choose, hrw.choose_spec.1, hrw.choose_spec.2.1, fun j hj => (hrw.choose_spec.2.2 j hj).trans (by unfold movL; rw [if_pos (by omega)]; rfl)⟩; cases ev; have HG1 : Hid (w.grownBy w1 r) := ⟨hgrow1.os, hgrow1.tape, hgrow1.output, Nat.le_trans HGROW1.out.size hgrow1.size, fun k' hk' hne' => (hgrow1.block k' (by rw [HSIZE1.out]; omega) (by rw [HR.out]; exact hne')).trans (HGROW1.out.block k' hk' hne')⟩; have HAT : Hid (some g = r ∨ w.heap.size ≤ g) := (by rcases hat1 with h | h; exact .inl (h.trans HR.out); exact .inr (by have h' : g = (w.alloc (.cells #[.string ⟨#[]⟩] 9)).heap.size := Option.some.inj h; rw [HSIZE1.out] at h'; omega)); clear hown1 hgrow1 hat1 hn' hlen1 hrw)
          go_loopw [6] (fun z wr => ∃ q : Nat, k ≤ q ∧ q ≤ n ∧ z = .int .i64 q ∧ RowS wr g c' (n + 1) (movL ss q) ∧ w1.grownBy wr (some g)) (fun z _ => (intOf z).toNat)
          case atStart => exact ⟨n, by omega, Nat.le_refl _, by go_num, HRW.out, grown_refl _ _⟩
          case round =>
            obtain ⟨q, hkq, hqn, rfl, hrow, hgr⟩ := hrel
            have HROW : Hid (RowS wr g c' (n + 1) (movL ss q)) := hrow
            by_cases hgt : k < q
            · obtain ⟨q', rfl⟩ : ∃ q', q = q' + 1 := ⟨q - 1, by omega⟩
              have d0 := hrow.cell (j := q') (by omega)
              have d1 := hrow.cell (j := q' + 1) (by omega)
              have d2 := hrow.frozen
              have hmi : ((q' : Int) + 1) - 1 = (q' : Int) := by omega
              obtain ⟨y0, HY0⟩ : ∃ y, Hid (movL ss (q' + 1) q' = y) := ⟨_, rfl⟩
              obtain ⟨y1, HY1⟩ : ∃ y, Hid (movL ss (q' + 1) (q' + 1) = y) := ⟨_, rfl⟩
              rw [HY0.out] at d0
              rw [HY1.out] at d1
              clear hrow
              go_wp2
              go_roundw
              case rel => exact ⟨q', by omega, by omega, by go_num, HROW.out.set (q' + 1) y0 (fun i hi => by rw [movL_step ss q' (by rw [HN.out]; omega) i (by rw [HN.out]; exact hi), HY0.out]), grown_set hgr _ _⟩
              case measure => simp [intOf]
            · obtain rfl : q = k := by omega
              have d0 := hrow.cell (j := q) (by omega)
              have d2 := hrow.frozen
              obtain ⟨y0, HY0⟩ : ∃ y, Hid (movL ss q q = y) := ⟨_, rfl⟩
              rw [HY0.out] at d0
              clear hrow
              have HPOST : Hid _ := ins_post HN.out hqn HE.out hbg hcap hmax HROW.out HG1.out hgr HAT.out
              go_wp2
              go_ret
              exact HPOST.out
        · have HE : Hid (insB ss x = ss) := insB_same (p := k) (by rw [HN.out]; exact hlt) HALL.out (by rw [HY.out]; exact hq) (by rw [HY.out]; exact hq2)
          subst eo
          go_wp2
          go_ret
          exact ⟨_, rfl, by rw [HE.out]; exact HOWN.out, grown_refl _ _, .inl HR.out⟩
      · subst eo
        go_wp2
        go_round
        case rel => exact ⟨k + 1, by omega, by go_num, fun j hj => by
          by_cases e : j = k
          · rw [e, HY.out]; exact hq
          · exact HALL.out j (by omega)⟩
        case measure => simp [intOf]; omega
    · obtain rfl : k = n := by omega
      have HE : Hid (insB ss x = ss.take k ++ x :: ss.drop k) := insB_new (by rw [HN.out]; exact hk) HALL.out (fun hlt' => absurd hlt' (by rw [HN.out]; omega)) (fun hlt' => absurd hlt' (by rw [HN.out]; omega))
      clear HALL HC
      go_wp2_with (at_builtin; refine wpList_append_strs rfl _ _ rfl base (.slice o k c) _ ss [⟨#[]⟩] rfl rfl HOWN1.out (str_new w _ 9) (by rw [HN.out]; simp; omega) HBASE1.out ?_; intro o' n' c' w1 hn' hown1 hgrow1 hat1; have HE1 : Hid (n' = k + 1) := (by show n' = k + 1; rw [hn', HN.out]; rfl); have hrow1 := hown1.row (by simp); obtain ⟨g, cap, ev, hbg, hcap, hmax, hrw⟩ := hrow1; have hlen1 : (ss ++ [(⟨#[]⟩ : ByteArray)]).length = k + 1 := (by rw [List.length_append, HN.out]; rfl); rw [hlen1] at ev hcap hrw; have HRW : Hid (RowS w1 g cap (k + 1) (movL ss k)) := ⟨hrw.choose, hrw.choose_spec.1, hrw.choose_spec.2.1, fun j hj => (hrw.choose_spec.2.2 j hj).trans (by unfold movL; rw [if_pos (by omega)]; rfl)⟩; cases ev; have HG1 : Hid (w.grownBy w1 r) := ⟨hgrow1.os, hgrow1.tape, hgrow1.output, Nat.le_trans HGROW1.out.size hgrow1.size, fun k' hk' hne' => (hgrow1.block k' (by rw [HSIZE1.out]; omega) (by rw [HR.out]; exact hne')).trans (HGROW1.out.block k' hk' hne')⟩; have HAT : Hid (some g = r ∨ w.heap.size ≤ g) := (by rcases hat1 with h | h; exact .inl (h.trans HR.out); exact .inr (by have h' : g = (w.alloc (.cells #[.string ⟨#[]⟩] 9)).heap.size := Option.some.inj h; rw [HSIZE1.out] at h'; omega)); clear hown1 hgrow1 hat1 hn' hlen1 hrw)
      go_loopw [6] (fun z wr => ∃ q : Nat, k ≤ q ∧ q ≤ k ∧ z = .int .i64 q ∧ RowS wr g c' (k + 1) (movL ss q) ∧ w1.grownBy wr (some g)) (fun z _ => (intOf z).toNat)
      case atStart => exact ⟨k, by omega, Nat.le_refl _, by go_num, HRW.out, grown_refl _ _⟩
      case round =>
        obtain ⟨q, hkq, hqn, rfl, hrow, hgr⟩ := hrel
        have HROW : Hid (RowS wr g c' (k + 1) (movL ss q)) := hrow
        by_cases hgt : k < q
        · exact absurd hgt (by omega)
        · obtain rfl : q = k := by omega
          have d0 := hrow.cell (j := q) (by omega)
          have d2 := hrow.frozen
          obtain ⟨y0, HY0⟩ : ∃ y, Hid (movL ss q q = y) := ⟨_, rfl⟩
          rw [HY0.out] at d0
          clear hrow
          have HPOST : Hid _ := ins_post HN.out hqn HE.out hbg hcap hmax HROW.out HG1.out hgr HAT.out
          go_wp2
          go_ret
          exact HPOST.out
end Go.Proofs.Qxb6601693aDoor
