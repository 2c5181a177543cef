import Derived.Test.Qxb6601375aDoorW2
import Derived.Deep.OwnRows
import Derived.Deep.QuietTactic
import Derived.BigQuiet
namespace Go.Proofs.Qxb6601375aDoor
open Go.RowKit

/-- the numbers xs lie at the head of block B -/
def intsAt (w : World) (B : Nat) (xs : List Int) : Prop := ∀ j, j < xs.length → w.cell? ⟨B, j, none⟩ = some (.int .i64 (xs.getD j 0))
/-- v is a slice that holds the numbers xs -/
def SlAt (w : World) (v : Value) (xs : List Int) : Prop := ∃ o c, v = .slice o xs.length c ∧ ∀ j, j < xs.length → ∃ g, o = some ⟨g, 0, none⟩ ∧ g < w.heap.size ∧ intsAt w g xs

theorem getD_of {xs : List Int} {j : Nat} {x : Int} (h : xs[j]? = some x) : xs.getD j 0 = x := by rw [List.getD_eq_getElem?_getD, h]; rfl
theorem slAt_own {w : World} {N n : Nat} {v : Value} {xs : List Int} (h : w.ownsRow N 3 1 v n (xs.map (Value.int .i64))) : SlAt w v xs := by
  have hl := h.1
  rw [List.length_map] at hl
  have hn : xs.length = n := by omega
  rcases h.2 with ⟨rfl, h0⟩ | ⟨g, cap, cur, rfl, hb, hg, _, _, _, hc⟩
  · exact ⟨none, 0, by rw [hn, h0], fun j hj => by omega⟩
  · refine ⟨_, _, by rw [hn], fun j hj => ⟨g, rfl, (Array.getElem?_eq_some_iff.1 hg).1, fun i hi => ?_⟩⟩
    have e : cur[i]? = some (.int .i64 (xs.getD i 0)) := by
      have h1 : (List.take (n * 1) cur.toList)[i]? = cur.toList[i]? := by rw [List.getElem?_take, if_pos (by omega)]
      rw [hc, List.getElem?_map, List.getElem?_eq_getElem hi, Array.getElem?_toList] at h1
      rw [← h1, List.getD_eq_getElem?_getD, List.getElem?_eq_getElem hi]
      rfl
    simp [World.cell?, hg, e]
theorem slAt_below {w w' : World} {v : Value} {xs : List Int} (h : SlAt w v xs) (hb : Below w.heap.size w w') : SlAt w' v xs := by
  obtain ⟨o, c, rfl, h⟩ := h
  refine ⟨o, c, rfl, fun j hj => ?_⟩
  obtain ⟨g, h1, h2, h3⟩ := h j hj
  have := hb.size
  exact ⟨g, h1, by omega, fun i hi => (World.cell?_of_block (a := ⟨g, i, none⟩) (hb.block g h2)).trans (h3 i hi)⟩

def kindI (L : List (List UInt8)) (i : Nat) : Int := if openAt L i then (if openAt L (i + 1) then 2 else 3) else if openAt L (i + 1) then 1 else 0
/-- block B holds n numbers, the first k of which are the kinds -/
def kindsAt (w : World) (B n : Nat) (L : List (List UInt8)) (k : Nat) : Prop := ∀ j, j < n → ∃ x, w.cell? ⟨B, j, none⟩ = some (.int .i64 x) ∧ w.frozen? ⟨B, j, none⟩ = false ∧ (j < k → x = kindI L j)

theorem kindsAt.drew {w : World} {B n k : Nat} {L : List (List UInt8)} (h : kindsAt w B n L k) (q : Nat) : kindsAt (w.drewN q) B n L k := fun j hj => by
  obtain ⟨x, h1, h2, h3⟩ := h j hj
  exact ⟨x, by simpa using h1, by simpa using h2, h3⟩
theorem kindsAt.set {w : World} {B n k : Nat} {L : List (List UInt8)} (h : kindsAt w B n L k) (x : Int) (hx : x = kindI L k) (hk : k < n) : kindsAt (w.setCell ⟨B, k, none⟩ (.int .i64 x)) B n L (k + 1) := by
  intro j hj
  obtain ⟨y, h1, h2, h3⟩ := h j hj
  by_cases e : j = k
  · subst e
    exact ⟨x, World.cell?_setCell_same _ _ _ h1, by rw [World.frozen?_setCell]; exact h2, fun _ => hx⟩
  · exact ⟨y, by rw [World.cell?_setCell_other _ _ _ _ (by intro h; cases h; exact e rfl)]; exact h1, by rw [World.frozen?_setCell]; exact h2, fun h => h3 (by omega)⟩
theorem made_kinds (w : World) (n : Nat) (L : List (List UInt8)) : kindsAt (w.alloc (.cells (madeCells #[.int .i64 0] n) 3)) w.heap.size n L 0 := by
  intro j hj
  refine ⟨0, ?_, by simp, fun h => absurd h (Nat.not_lt_zero _)⟩
  rw [World.cell?_alloc_at _ _ _ _ rfl]
  unfold madeCells
  simp [hj, Nat.mod_one]

def kindsOf (L : List (List UInt8)) : List Int := (List.range L.length).map (kindI L)
theorem kindsOf_get (L : List (List UInt8)) (i : Nat) (h : i < L.length) : (kindsOf L)[i]? = some (kindI L i) := by
  unfold kindsOf
  rw [List.getElem?_map, List.getElem?_range h]
  rfl
theorem kindsOf_length (L : List (List UInt8)) : (kindsOf L).length = L.length := by unfold kindsOf; simp
theorem startsOf_length (L : List (List UInt8)) : (startsOf L).length = L.length := by unfold startsOf; simp
theorem endsOf_length (L : List (List UInt8)) : (endsOf L).length = L.length := by unfold endsOf; simp

/-- the line's own text -/
theorem line_ext (s : ByteArray) (k : Nat) (hk : k < (linesL s.data.toList).length) : (s.extract (off (linesL s.data.toList) k) (off (linesL s.data.toList) k + (line (linesL s.data.toList) k).length)).data.toList = line (linesL s.data.toList) k := by
  rw [Lib.extract_data, Nat.add_sub_cancel_left]
  have := line_at (linesL s.data.toList) k hk
  rwa [linesL_flatten] at this
theorem line_end (s : ByteArray) (k : Nat) (hk : k < (linesL s.data.toList).length) : off (linesL s.data.toList) k + (line (linesL s.data.toList) k).length ≤ s.size := by
  have h1 := congrArg List.length (line_at (linesL s.data.toList) k hk)
  have h2 := off_le (linesL s.data.toList) k
  rw [linesL_flatten, len_size] at h2
  rw [linesL_flatten, List.length_take, List.length_drop, len_size] at h1
  omega

/-- what a round needs of the two slices -/
theorem slAt_at {w : World} {o : Option Addr} {n : Nat} {xs : List Int} (h : ∀ j, j < xs.length → ∃ g, o = some ⟨g, 0, none⟩ ∧ g < w.heap.size ∧ intsAt w g xs) {x : Int} (k : Nat) (_hk : k < n) (hx : xs[k]? = some x) : ∃ g, o = some ⟨g, 0, none⟩ ∧ g < w.heap.size ∧ w.cell? ⟨g, k, none⟩ = some (.int .i64 x) := by
  have hl : k < xs.length := (List.getElem?_eq_some_iff.1 hx).1
  obtain ⟨g, h1, h2, h3⟩ := h k hl
  exact ⟨g, h1, h2, by rw [← getD_of hx]; exact h3 k hl⟩
theorem cell_below {B : Nat} {w w' : World} (h : Below B w w') {g k : Nat} {v : Value} (hg : g < B) (hc : w.cell? ⟨g, k, none⟩ = some v) : w'.cell? ⟨g, k, none⟩ = some v :=
  (World.cell?_of_block (a := ⟨g, k, none⟩) (h.block g hg)).trans hc

theorem below_drewN' {B : Nat} {w wr : World} (h : Below B w wr) (n : Nat) : Below B w (wr.drewN n) := ⟨h.os, h.tape, h.output, h.size, h.block⟩

set_option maxHeartbeats 1000000 in
theorem kinds_any (s : ByteArray) (v1 v2 : Value) (w : World) (hs : s.size ≤ 1048576) (h1 : SlAt w v1 (startsOf (linesL s.data.toList))) (h2 : SlAt w v2 (endsOf (linesL s.data.toList))) :
    Calls Tryd.prog 14 #[.string s, v1, v2] w fun e w' => ∃ v, e = .returned v ∧ SlAt w' v (kindsOf (linesL s.data.toList)) ∧ Below w.heap.size w w' := by
  obtain ⟨o1, c1, rfl, h1⟩ := h1
  obtain ⟨o2, c2, rfl, h2⟩ := h2
  have hn := lines_count s.data.toList
  rw [len_size] at hn
  rw [startsOf_length, endsOf_length]
  have hle := fun k hk => line_end s k hk
  have hsub := fun k hk => line_ext s k hk
  have hsg := startsOf_get (linesL s.data.toList)
  have heg := endsOf_get (linesL s.data.toList)
  generalize hL : linesL s.data.toList = L at *
  have hmk := fun wx => run_make_row' (P := Tryd.prog) 32 3 (.int .i64 0) 8 Tryd.underlying32 Tryd.info3 rfl .i64 .i64 L.length (by omega) (by omega) wx
  have hm := made_kinds w L.length L
  have hb0 : Below w.heap.size w (w.alloc (.cells (madeCells #[.int .i64 0] L.length) 3)) := (Below.refl _ w).alloc (Nat.le_refl _) _
  have hz0 : w.heap.size < (w.alloc (.cells (madeCells #[.int .i64 0] L.length) 3)).heap.size := by simp
  go_enter Tryd.func14, Tryd.ntmps14
  go_wp2
  generalize w.alloc (.cells (madeCells #[.int .i64 0] L.length) 3) = w0 at *
  clear hmk
  go_loopw [8, 9] (fun b i wr => ∃ (k : Nat), k ≤ L.length ∧ i = .int .i64 k ∧ b = .bool (openAt L k) ∧ kindsAt wr w.heap.size L.length L k ∧ w.heap.size < wr.heap.size ∧ Below w.heap.size w wr) (fun _ i _ => L.length - (intOf i).toNat)
  case atStart => exact ⟨0, Nat.zero_le _, rfl, rfl, hm, hz0, hb0⟩
  case round =>
    obtain ⟨k, hk, rfl, rfl, hat, hz, hb⟩ := hrel
    clear hm hz0 hb0
    by_cases hlt : k < L.length
    · obtain ⟨g1, rfl, hg1, hc1⟩ := slAt_at h1 k hlt (hsg k hlt)
      obtain ⟨g2, rfl, hg2, hc2⟩ := slAt_at h2 k hlt (heg k hlt)
      have hr1 := cell_below hb hg1 hc1
      have hr2 := cell_below hb hg2 hc2
      obtain ⟨x, hx, hf, _⟩ := hat k hlt
      have hend := hle k hlt
      have hln := hsub k hlt
      have HAT : Hid (kindsAt wr w.heap.size L.length L k) := hat
      have HO : Hid (openAt L (k + 1) = fencedB (line L k) (openAt L k)) := rfl
      clear hat hle hsub hsg heg h1 h2 hc1 hc2 hg1 hg2
      have hfe := fun wx => isFence_any (s.extract (off L k) (off L k + (line L k).length)) wx
      have hbe := fun wx => begins_any (s.extract (off L k) (off L k + (line L k).length)) wx
      rw [hln] at hfe hbe
      clear hln
      have hen : ((off L k : Int) + ((line L k).length : Int)).toNat = off L k + (line L k).length := by omega
      cases ho : openAt L k
      · rw [ho] at HO
        cases hp : Lib.hasPrefix (line L k) [96, 96, 96]
        · rw [hp] at hbe
          have hp' : fencedB (line L k) false = false := hp
          go_wp2
          go_quiet (fail)
          go_wp2_with (go_at_call 22; refine (hbe _).mono ?_; rintro e w' ⟨rfl, rfl⟩)
          go_roundw
          case rel =>
            refine ⟨k + 1, by omega, by go_num, by rw [HO.out, hp'], (HAT.out.drew _).set _ (by unfold kindI; rw [ho, HO.out, hp']; rfl) hlt, by simpa using hz, (below_drewN' hb _).setCell (Nat.le_refl _) _⟩
          case measure => simp [intOf]; omega
        · rw [hp] at hbe
          have hp' : fencedB (line L k) false = true := hp
          go_wp2
          go_quiet (fail)
          go_wp2_with (go_at_call 22; refine (hbe _).mono ?_; rintro e w' ⟨rfl, rfl⟩)
          go_roundw
          case rel =>
            refine ⟨k + 1, by omega, by go_num, by rw [HO.out, hp'], (HAT.out.drew _).set _ (by unfold kindI; rw [ho, HO.out, hp']; rfl) hlt, by simpa using hz, (below_drewN' hb _).setCell (Nat.le_refl _) _⟩
          case measure => simp [intOf]; omega
      · rw [ho] at HO
        cases hp : (line L k == [96, 96, 96])
        · rw [hp] at hfe
          have hp' : fencedB (line L k) true = true := by unfold fencedB; rw [hp]; rfl
          go_wp2
          go_quiet (fail)
          go_wp2_with (go_at_call 21; refine (hfe _).mono ?_; rintro e w' ⟨rfl, rfl⟩)
          go_roundw
          case rel =>
            refine ⟨k + 1, by omega, by go_num, by rw [HO.out, hp'], (HAT.out.drew _).set _ (by unfold kindI; rw [ho, HO.out, hp']; rfl) hlt, by simpa using hz, (below_drewN' hb _).setCell (Nat.le_refl _) _⟩
          case measure => simp [intOf]; omega
        · rw [hp] at hfe
          have hp' : fencedB (line L k) true = false := by unfold fencedB; rw [hp]; rfl
          go_wp2
          go_quiet (fail)
          go_wp2_with (go_at_call 21; refine (hfe _).mono ?_; rintro e w' ⟨rfl, rfl⟩)
          go_roundw
          case rel =>
            refine ⟨k + 1, by omega, by go_num, by rw [HO.out, hp'], (HAT.out.drew _).set _ (by unfold kindI; rw [ho, HO.out, hp']; rfl) hlt, by simpa using hz, (below_drewN' hb _).setCell (Nat.le_refl _) _⟩
          case measure => simp [intOf]; omega
    · obtain rfl : k = L.length := by omega
      clear hle hsub hsg heg h1 h2
      go_wp2
      go_ret
      refine ⟨.slice (some ⟨w.heap.size, 0, none⟩) L.length L.length, rfl, ⟨_, _, by rw [kindsOf_length], fun j hj => ⟨_, rfl, hz, fun i hi => ?_⟩⟩, hb⟩
      rw [kindsOf_length] at hi
      obtain ⟨x, hx, _, he⟩ := hat i hi
      rw [hx, he hi, getD_of (kindsOf_get L i hi)]
end Go.Proofs.Qxb6601375aDoor
