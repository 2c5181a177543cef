import Derived.Test.Qxb6601693aDoorShelg
import Derived.Test.Qxb6601693aDoorA1
import Derived.Sort.OwnSorted
import Derived.Deep.AppendLies
import Derived.Laws.OwnMore
namespace Go.Proofs.Qxb6601693aDoor
open Go.RowKit Go.Sort

/-- v is a slice of the call's own that holds ss -/
def OwnStr (base : Nat) (w : World) (v : Value) (ss : List ByteArray) : Prop := w.ownsRow base 9 1 v ss.length (ss.map Value.string)
theorem OwnStr.form {base : Nat} {w : World} {v : Value} {ss : List ByteArray} (h : OwnStr base w v ss) : ∃ o c, v = .slice o ss.length c := by
  rcases h.2 with ⟨rfl, h0⟩ | ⟨g, cap, cur, rfl, _⟩
  · exact ⟨none, 0, by rw [h0]⟩
  · exact ⟨_, _, rfl⟩
theorem strs_getD (ss : List ByteArray) {i : Nat} (h : i < ss.length) : (ss.map Value.string)[i]? = some (.string (ss.getD i ByteArray.empty)) := by
  rw [List.getElem?_map, List.getElem?_eq_getElem h, List.getD_eq_getElem?_getD, List.getElem?_eq_getElem h]
  rfl
theorem OwnStr.on {base : Nat} {w : World} {v : Value} {ss : List ByteArray} (h : OwnStr base w v ss) : On (fun g => v.ownBlock = some g) (fun w => StrAt w v ss) w := by
  intro w' hw
  rcases h.2 with ⟨rfl, h0⟩ | ⟨g, cap, cur, rfl, hb, hg, h1, h2, h3, h4⟩
  · exact ⟨none, 0, by rw [h0], by omega, fun h => by omega⟩
  · refine ⟨_, cap, rfl, h1, fun _ => ⟨g, 0, rfl, fun i hi => ?_⟩⟩
    have e := hw g rfl
    rw [Nat.zero_add]
    refine cell_blocks ?_ e
    rw [cell_of_row w g i cur 9 _ hg]
    have := strs_getD ss hi
    rw [← h4, List.getElem?_take, if_pos (by omega)] at this
    simpa using this
theorem OwnStr.at {base : Nat} {w : World} {v : Value} {ss : List ByteArray} (h : OwnStr base w v ss) : StrAt w v ss := h.on.out
theorem OwnStr.nil (base : Nat) (w : World) : OwnStr base w (.slice none 0 0) [] := World.ownsRow_nil w base 9 1
theorem OwnStr.move {base : Nat} {w w' : World} {v : Value} {ss : List ByteArray} (h : OwnStr base w v ss) (hw : ∀ g, v.ownBlock = some g → w'.heap[g]? = w.heap[g]?) : OwnStr base w' v ss := by
  refine ⟨h.1, ?_⟩
  rcases h.2 with hn | ⟨g, cap, cur, rfl, hb, hg, h1, h2, h3, h4⟩
  · exact .inl hn
  · exact .inr ⟨g, cap, cur, rfl, hb, (hw g rfl).trans hg, h1, h2, h3, h4⟩
theorem OwnStr.lt {base : Nat} {w : World} {v : Value} {ss : List ByteArray} (h : OwnStr base w v ss) {g : Nat} (hg : v.ownBlock = some g) : base ≤ g ∧ g < w.heap.size := by
  rcases h.2 with ⟨rfl, h0⟩ | ⟨g', cap, cur, rfl, hb, hg', _⟩
  · cases hg
  · cases hg
    exact ⟨hb, (Array.getElem?_eq_some_iff.1 hg').1⟩
theorem OwnStr.base {base base' : Nat} {w : World} {v : Value} {ss : List ByteArray} (h : OwnStr base w v ss) (hb : ∀ g, v.ownBlock = some g → base' ≤ g) : OwnStr base' w v ss := by
  refine ⟨h.1, ?_⟩
  rcases h.2 with hn | ⟨g, cap, cur, rfl, _, hr⟩
  · exact .inl hn
  · exact .inr ⟨g, cap, cur, rfl, hb g rfl, hr⟩

/-- slices.Contains -/
theorem contains_con (v : Value) (ss : List ByteArray) (x : ByteArray) (w : World) (h : StrAt w v ss) (hl : ss.length ≤ 9223372036854775807) :
    Calls Tryd.prog 47 #[v, .string x] w fun e w' => e = .returned (.bool (hasB ss x)) ∧ w' = w := by
  obtain ⟨o, c, rfl, h1, h2⟩ := h
  by_cases h0 : ss.length = 0
  · have hs : ss = [] := List.length_eq_zero_iff.1 h0
    subst hs
    exact Any.slices_Contains_string_empty Tryd.lays110 o c x w
  · obtain ⟨b, f, rfl, hc⟩ := h2 (by omega)
    refine (Any.slices_Contains_string Tryd.lays110 b f ss.length c ss x w (Nat.le_refl _) hl hc).mono fun e w' ⟨he, hw⟩ => ⟨?_, hw⟩
    rw [he, List.take_length]
    refine ret_bool (bool_iff ?_)
    rw [Lib.containsS_iff, hasB_iff]

/-- slices.Clone -/
theorem clone_con (v : Value) (ss : List ByteArray) (w : World) (h : StrAt w v ss) (hl : ss.length ≤ 1048576) :
    Calls Tryd.prog 61 #[v] w fun e w' => ∃ v', e = .returned v' ∧ OwnStr w.heap.size w' v' ss ∧ Below w.heap.size w w' := by
  obtain ⟨o, c, rfl, h1, h2⟩ := h
  rcases o with _ | a
  · have hs : ss = [] := by
      by_cases h0 : 0 < ss.length
      · obtain ⟨b, f, e, _⟩ := h2 h0
        cases e
      · exact List.length_eq_zero_iff.1 (by omega)
    subst hs
    refine (Any.slices_Clone_string_nil Tryd.lays2n16 0 c w).mono fun e w' ⟨he, hw⟩ => ?_
    subst hw
    exact ⟨_, he, OwnStr.nil _ _, Below.refl _ _⟩
  · by_cases h0 : ss.length = 0
    · have hs : ss = [] := List.length_eq_zero_iff.1 h0
      subst hs
      exact (Any.slices_Clone_string_zero Tryd.lays2n16 a c w).mono fun e w' ⟨v', he, ho, _, hb⟩ => ⟨v', he, ho, hb⟩
    · obtain ⟨b, f, e, hc⟩ := h2 (by omega)
      cases e
      refine (Any.slices_Clone_string Tryd.lays2n16 b f ss.length c ss w (Nat.le_refl _) (by omega) hc).mono fun e w' ⟨v', he, ho, _, hb⟩ => ⟨v', he, ?_, hb⟩
      rw [List.take_length] at ho
      exact ho

def sortedL (ss : List ByteArray) : List ByteArray := ((ss.map toL).mergeSort fun x y => decide (x ≤ y)).map ofL
theorem sortedL_length (ss : List ByteArray) : (sortedL ss).length = ss.length := by unfold sortedL; simp
theorem enc_map (l : List Bs) : l.map encStr = (l.map ofL).map Value.string := by rw [List.map_map]; rfl
theorem map_ofL_toL (ss : List ByteArray) : (ss.map toL).map ofL = ss := by rw [List.map_map]; exact List.map_id' ss

/-- slices.Sort -/
theorem sort_con (base : Nat) (v : Value) (ss : List ByteArray) (w : World) (h : OwnStr base w v ss) (h0 : 0 < ss.length) (hl : ss.length < 4611686018427387904) :
    Calls Tryd.prog 48 #[v] w fun e w' => e = .returned (.tuple #[]) ∧ OwnStr base w' v (sortedL ss) ∧ w.grownBy w' v.ownBlock := by
  have h' := h
  rcases h.2 with ⟨rfl, hn⟩ | ⟨g, cap, cur, rfl, hb, hg, h1, h2, h3, h4⟩
  · omega
  · have ht : cur.toList.take (ss.map toL).length = (ss.map toL).map encStr := by
      rw [enc_map, map_ofL_toL, List.length_map, ← h4, Nat.mul_one]
    have hH := holds_of_block hg ht
    have hc := Any.slices_Sort_string Tryd.lays190 g 0 cap (ss.map toL) w hH (Array.getElem?_eq_some_iff.1 hg).1 (by simpa using hl)
    rw [List.length_map] at hc
    refine hc.mono fun e w' ⟨he, n, os, hw⟩ => ⟨he, ?_, ?_⟩
    · subst hw
      have hs := ownsRow_sorted (n := n) (os := os) (ss := ss.map toL) (ts := (ss.map toL).mergeSort fun x y => decide (x ≤ y)) (by simp) hb hg (by simpa using h1) h2 (by simpa using h3)
      unfold OwnStr
      rw [sortedL_length]
      rw [enc_map, List.length_map] at hs
      exact hs
    · subst hw
      exact grownBy_sorted _

/-- slices.Compact of what slices.Sort left -/
theorem compact_con (base : Nat) (v : Value) (ss : List ByteArray) (w : World) (h : OwnStr base w v (sortedL ss)) (h0 : 0 < ss.length) (hl : ss.length < 4611686018427387904) :
    Calls Tryd.prog 49 #[v] w fun e w' => ∃ v', e = .returned v' ∧ OwnStr base w' v' (sortL ss) ∧ v'.ownBlock = v.ownBlock ∧ w.grownBy w' v.ownBlock := by
  have hlen := sortedL_length ss
  have ezs : Lib.compact ((ss.map toL).mergeSort fun x y => decide (x ≤ y)) = (ss.map toL).foldl ins [] := by
    have := sort_compact (ss.map toL)
    unfold Lib.compact
    simpa using this
  obtain ⟨zs, ez⟩ : ∃ zs, ((ss.map toL).mergeSort fun x y => decide (x ≤ y)) = zs := ⟨_, rfl⟩
  have hzl : zs.length = ss.length := by rw [← ez]; simp
  have hso : sortedL ss = zs.map ofL := by unfold sortedL; rw [ez]
  have hsl : sortL ss = (Lib.compact zs).map ofL := by unfold sortL; rw [← ezs, ez]
  rcases h.2 with ⟨rfl, hn⟩ | ⟨g, cap, cur, rfl, hb, hg, h1, h2, h3, h4⟩
  · omega
  · rw [hlen] at h1 h4
    have ht : cur.toList.take zs.length = zs.map encStr := by
      rw [enc_map, ← hso, ← h4, hzl, Nat.mul_one]
    have hH := holds_of_block hg ht
    have hc := Any.slices_Compact_string Tryd.lays194 g 0 cap zs w hH (by omega) (by omega)
    rw [hzl, ← hlen] at hc
    refine hc.mono fun e w' ⟨he, q, hw⟩ => ⟨_, he, ?_, rfl, ?_⟩
    · have hcl : (Lib.compact zs).length ≤ zs.length := by
        unfold Lib.compact Lib.compactUpTo
        rw [List.length_map]
        exact Nat.le_trans (List.length_filter_le _ _) (by simp)
      have hw' : w' = grow (putRow encStr (Sort.ahead w q) g 0 (Lib.compact zs ++ List.replicate (zs.length - (Lib.compact zs).length) []).toArray) #[] := by
        rw [grow_empty, hw, hlen, hzl]
      subst hw'
      have hs := ownsRow_sorted (n := q) (os := #[]) (ss := zs) (ts := Lib.compact zs ++ List.replicate (zs.length - (Lib.compact zs).length) []) (by simp; omega) hb hg (by rw [hzl]; exact h1) h2 (by simpa using h3)
      unfold OwnStr
      rw [hsl, List.length_map]
      refine ⟨by simp, .inr ?_⟩
      rcases hs.2 with ⟨e, _⟩ | ⟨g', cap', cur', e', hb', hg', h1', h2', h3', h4'⟩
      · cases e
      · cases e'
        refine ⟨g, cap, cur', rfl, hb, hg', by omega, h2, h3', ?_⟩
        have : cur'.toList.take ((Lib.compact zs).length * 1) = (cur'.toList.take (zs.length * 1)).take ((Lib.compact zs).length) := by
          rw [List.take_take, Nat.min_eq_left (by omega), Nat.mul_one]
        rw [this, h4', List.map_append, List.take_left' (by simp), enc_map]
    · have hw' : w' = grow (putRow encStr (Sort.ahead w q) g 0 (Lib.compact zs ++ List.replicate (zs.length - (Lib.compact zs).length) []).toArray) #[] := by
        rw [grow_empty, hw, hlen, hzl]
      subst hw'
      exact grownBy_sorted _
end Go.Proofs.Qxb6601693aDoor
