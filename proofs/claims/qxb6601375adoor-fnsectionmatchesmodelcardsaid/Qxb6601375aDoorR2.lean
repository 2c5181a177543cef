import Derived.Test.Qxb6601375aDoorR1
import Derived.Test.Qxb6601375aDoorW1
import Derived.RangeFuncBound
import Derived.Lib.IndexLaws
import Derived.Shelf.Abstract
import Derived.Shelf.RegionOpen
import Derived.OwnWalkIn
import Derived.TacticsInMore
import Derived.LoopNIn
import Derived.LoopIn
namespace Go.Proofs.Qxb6601375aDoor
open Go.RowKit Go.Shelf
attribute [local go_sem] Oper.semAt_some

def byteArr (x : List UInt8) : ByteArray := ⟨x.toArray⟩
def linesB (s : ByteArray) : List ByteArray := (linesL s.data.toList).map byteArr
theorem byteArr_eq (t : ByteArray) : byteArr t.data.toList = t := rfl
theorem grown_drew {w w' : World} {row : Option Nat} (h : w.grownBy w' row) : w.grownBy w'.drew row := ⟨h.1, h.2, h.3, h.4, h.5⟩
/-- how long the string in box B is -/
def boxLen (B : Nat) (w : World) : Nat := match w.cell? ⟨B, 0, none⟩ with
  | some (.string t) => t.size
  | _ => 0
theorem boxLen_of {B : Nat} {w : World} {t : ByteArray} (h : w.cell? ⟨B, 0, none⟩ = some (.string t)) : boxLen B w = t.size := by unfold boxLen; rw [h]

set_option maxHeartbeats 1000000 in
theorem lines_seq (n Bs : Nat) (s : ByteArray) (w : World) (hn : 2 ≤ n) (hs : s.size ≤ 1048576) (hBs : Bs < w.heap.size) (hc : w.cell? ⟨Bs, 0, none⟩ = some (.string s)) (hf : w.frozen? ⟨Bs, 0, none⟩ = false) :
    SeqBox Fence.wide n Tryd.prog 18 #[.pointer (some ⟨Bs, 0, none⟩)] (fun x : ByteArray => #[.string x]) Bs (linesB s) w := by
  intro l J Jx W hW hJ hY h0
  have hc0 : W.cell? ⟨Bs, 0, none⟩ = some (.string s) := (hW.cell (p := ⟨Bs, 0, none⟩) hBs).trans hc
  have hf0 : W.frozen? ⟨Bs, 0, none⟩ = false := (hW.frozen (p := ⟨Bs, 0, none⟩) hBs).trans hf
  have h19 : Fence.wide.fn 19 := trivial
  have hn1 : 1 ≤ n := by omega
  refine callsIn_of_wp Tryd.func18 rfl trivial ?_ rfl
  simp only [Tryd.ntmps18, List.size_toArray, List.length_cons, List.length_nil, Nat.reduceAdd, Nat.reduceSub, Array.replicate_succ, Array.replicate_zero, List.push_toArray, List.append_toArray, List.nil_append, List.cons_append]
  clear hc hf hW
  gi_wp2
  gi_loopw [3, 4] (fun _ _ wr => ∃ (i : Nat) (t : ByteArray), i ≤ (linesB s).length ∧ linesB t = (linesB s).drop i ∧ t.size ≤ s.size ∧ wr.cell? ⟨Bs, 0, none⟩ = some (.string t) ∧ wr.frozen? ⟨Bs, 0, none⟩ = false ∧ J i wr) (fun _ _ wr => boxLen Bs wr)
  case atStart => exact ⟨0, s, Nat.zero_le _, rfl, Nat.le_refl _, hc0, hf0, h0⟩
  case round =>
    obtain ⟨i, t, hi, hl, hts, hc, hf, hJi⟩ := hrel
    clear hc0 hf0 h0
    by_cases h0 : t.size = 0
    · have ht : t.data.toList = [] := List.length_eq_zero_iff.1 (by rw [len_size]; exact h0)
      have hlen : (linesB s).length = i := by
        have := congrArg List.length hl
        rw [List.length_drop] at this
        unfold linesB at this hi ⊢
        rw [ht] at this
        simp [linesL_nil] at this hi ⊢
        omega
      gi_wp2
      go_end0
      exact ⟨⟨_, rfl⟩, .inl (by rw [hlen]; exact hJi)⟩
    · by_cases hidx : 0 ≤ Lib.indexByte t.data.toList 10
      · obtain ⟨k, hk⟩ := Int.eq_ofNat_of_zero_le hidx
        have hkt : k < t.size := by
          have := (List.getElem?_eq_some_iff.1 (Lib.indexByte_some hk).1).1
          rwa [len_size] at this
        have hL := linesL_hit t.data.toList hidx
        rw [hk, Int.toNat_natCast] at hL
        have e1 : byteArr (t.data.toList.take (k + 1)) = t.extract 0 (k + 1) := by
          rw [← byteArr_eq (t.extract 0 (k + 1)), Lib.extract_data]
          rfl
        have e2 : (t.extract (k + 1) t.size).data.toList = t.data.toList.drop (k + 1) := Lib.extract_to_end _ _
        have hx : (linesB s)[i]? = some (t.extract 0 (k + 1)) := by
          rw [← List.head?_drop, ← hl]
          unfold linesB
          rw [hL, List.map_cons, e1]
          rfl
        have hrest : linesB (t.extract (k + 1) t.size) = (linesB s).drop (i + 1) := by
          rw [← List.drop_drop, ← hl]
          unfold linesB
          rw [hL, e2]
          rfl
        have hsz : (t.extract (k + 1) t.size).size = t.size - (k + 1) := by rw [← len_size, e2, List.length_drop, len_size]
        have hilt : i < (linesB s).length := (List.getElem?_eq_some_iff.1 hx).1
        have hJs := hJ i wr (wr.setCell ⟨Bs, 0, none⟩ (.string (t.extract (k + 1) t.size))).drew (some Bs) hJi (grown_drew (grownBy_setCell' wr Bs (.string (t.extract (k + 1) t.size)))) (fun r e => by cases e; rfl)
        obtain ⟨fn, tmps, assign, body, hy, hR⟩ := hY i (t.extract 0 (k + 1)) _ hJs hx
        have hcs : (wr.setCell ⟨Bs, 0, none⟩ (.string (t.extract (k + 1) t.size))).cell? ⟨Bs, 0, none⟩ = some (.string (t.extract (k + 1) t.size)) := World.cell?_setCell_same _ _ _ hc
        have HM : Hid (boxLen Bs wr = t.size) := boxLen_of hc
        have HREST : Hid (linesB (t.extract (k + 1) t.size) = (linesB s).drop (i + 1)) := hrest
        have HSZ : Hid ((t.extract (k + 1) t.size).size = t.size - (k + 1)) := hsz
        have HJ : Hid (AbidesAt Bs J) := hJ
        clear hrest hl hx hY hL e1 e2 hsz hidx hJ
        gi_wp2_with (first | (gi_at_call 19; refine (callsIn_wide.2 (index_con _ _)).mono ?_; rintro e wr ⟨rfl, rfl⟩))
        gi_region
        gi_wp2
        refine hR.mono ?_
        rintro e W3 (⟨rfl, hJ3, hk3⟩ | ⟨rfl, hJx3⟩)
        · have hc3 : W3.cell? ⟨Bs, 0, none⟩ = some (.string (t.extract (k + 1) t.size)) := (World.cell?_of_block (a := ⟨Bs, 0, none⟩) hk3).trans hcs
          have hf3 : W3.frozen? ⟨Bs, 0, none⟩ = false := (World.frozen?_of_block (a := ⟨Bs, 0, none⟩) hk3).trans (by show (wr.setCell _ _).frozen? _ = _; rw [World.frozen?_setCell]; exact hf)
          gi_wp2
          go_roundw
          case rel => exact ⟨i + 1, _, hilt, HREST.out, by rw [HSZ.out]; omega, hc3, hf3, hJ3⟩
          case measure => rw [boxLen_of hc3, HM.out, HSZ.out]; omega
        · gi_wp2
          refine bodyPost_ret (results_none rfl _ _ _) rfl ?_
          exact ⟨⟨_, rfl⟩, .inr ⟨i, hilt, hJx3⟩⟩
      · have hx : (linesB s)[i]? = some t := by
          rw [← List.head?_drop, ← hl]
          unfold linesB
          rw [linesL_last t.data.toList (by omega) (by intro h; exact h0 (by rw [← len_size, h]; rfl))]
          rfl
        have hrest : linesB ⟨#[]⟩ = (linesB s).drop (i + 1) := by
          rw [← List.drop_drop, ← hl]
          unfold linesB
          rw [linesL_last t.data.toList (by omega) (by intro h; exact h0 (by rw [← len_size, h]; rfl))]
          rfl
        have hilt : i < (linesB s).length := (List.getElem?_eq_some_iff.1 hx).1
        have hJs := hJ i wr _ (some Bs) hJi (grownBy_setCell' wr Bs (.string ⟨#[]⟩)) (fun r e => by cases e; rfl)
        obtain ⟨fn, tmps, assign, body, hy, hR⟩ := hY i t _ hJs hx
        have hcs : (wr.setCell ⟨Bs, 0, none⟩ (.string ⟨#[]⟩)).cell? ⟨Bs, 0, none⟩ = some (.string ⟨#[]⟩) := World.cell?_setCell_same _ _ _ hc
        have HM : Hid (boxLen Bs wr = t.size) := boxLen_of hc
        have HREST : Hid (linesB ⟨#[]⟩ = (linesB s).drop (i + 1)) := hrest
        have HY : Hid (∀ i x W1, J i W1 → (linesB s)[i]? = some x → YieldAt Fence.wide (n - 1) Tryd.prog l #[.string x] W1 fun e W' => (e = .returned (.bool true) ∧ J (i + 1) W' ∧ W'.heap[Bs]? = W1.heap[Bs]?) ∨ (e = .returned (.bool false) ∧ Jx i W')) := hY
        clear hrest hl hx hY
        gi_wp2_with (first | (gi_at_call 19; refine (callsIn_wide.2 (index_con _ _)).mono ?_; rintro e wr ⟨rfl, rfl⟩))
        refine hR.mono ?_
        rintro e W3 (⟨rfl, hJ3, hk3⟩ | ⟨rfl, hJx3⟩)
        · have hc3 : W3.cell? ⟨Bs, 0, none⟩ = some (.string ⟨#[]⟩) := (World.cell?_of_block (a := ⟨Bs, 0, none⟩) hk3).trans hcs
          have hf3 : W3.frozen? ⟨Bs, 0, none⟩ = false := (World.frozen?_of_block (a := ⟨Bs, 0, none⟩) hk3).trans (by rw [World.frozen?_setCell]; exact hf)
          gi_wp2
          go_roundw
          case rel => exact ⟨i + 1, ⟨#[]⟩, hilt, HREST.out, Nat.zero_le _, hc3, hf3, hJ3⟩
          case measure => rw [boxLen_of hc3, HM.out]; show 0 < t.size; omega
        · gi_wp2
          refine bodyPost_ret (results_none rfl _ _ _) rfl ?_
          exact ⟨⟨_, rfl⟩, .inr ⟨i, hilt, hJx3⟩⟩

end Go.Proofs.Qxb6601375aDoor
