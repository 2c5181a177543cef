import Derived.Test.Qxb6601693aDoorG7
import Derived.Test.Qxb6601693aDoorW2
import Derived.Laws.MakeOwn
namespace Go.Proofs.Qxb6601693aDoor
open Go.RowKit

/-- X holds in w, and in every world that has w's blocks at S: X speaks of those blocks alone -/
def On (S : Nat → Prop) (X : World → Prop) (w : World) : Prop := ∀ w', (∀ g, S g → w'.heap[g]? = w.heap[g]?) → X w'
theorem On.out {S : Nat → Prop} {X : World → Prop} {w : World} (h : On S X w) : X w := h w fun _ _ => rfl
theorem On.mono {S S' : Nat → Prop} {X : World → Prop} {w : World} (h : On S X w) (hs : ∀ g, S g → S' g) : On S' X w := fun w' hw => h w' fun g hg => hw g (hs g hg)
theorem On.move {S : Nat → Prop} {X : World → Prop} {w w' : World} (h : On S X w) (hw : ∀ g, S g → w'.heap[g]? = w.heap[g]?) : On S X w' := fun w2 h2 => h w2 fun g hg => (h2 g hg).trans (hw g hg)
theorem On.imp {S : Nat → Prop} {X Y : World → Prop} {w : World} (h : On S X w) (hi : ∀ w, X w → Y w) : On S Y w := fun w2 h2 => hi _ (h w2 h2)
theorem cell_blocks {w w' : World} {b j : Nat} {v : Value} (h : w.cell? ⟨b, j, none⟩ = some v) (e : w'.heap[b]? = w.heap[b]?) : w'.cell? ⟨b, j, none⟩ = some v :=
  (World.cell?_of_block (a := ⟨b, j, none⟩) e).trans h
theorem StrAt.on {w : World} {v : Value} {ss : List ByteArray} (h : StrAt w v ss) : On (fun g => g < w.heap.size) (fun w => StrAt w v ss) w := by
  intro w' hw
  obtain ⟨o, c, rfl, h1, h2⟩ := h
  refine ⟨o, c, rfl, h1, fun h0 => ?_⟩
  obtain ⟨b, f, e, hc⟩ := h2 h0
  exact ⟨b, f, e, fun i hi => cell_blocks (hc i hi) (hw b (World.block_lt_of_cell? _ _ (hc i hi)))⟩

/-- block B holds m cells that can be written -/
def Row (w : World) (B m : Nat) : Prop := ∃ cur t, w.heap[B]? = some (.cells cur t (0, 0)) ∧ cur.size = m
theorem Row.lt {w : World} {B m : Nat} (h : Row w B m) : B < w.heap.size := by
  obtain ⟨cur, t, h, _⟩ := h
  exact (Array.getElem?_eq_some_iff.1 h).1
theorem Row.cell {w : World} {B m : Nat} (h : Row w B m) {j : Nat} (hj : j < m) : ∃ x, w.cell? ⟨B, j, none⟩ = some x := by
  obtain ⟨cur, t, h, hm⟩ := h
  exact ⟨cur[j], by rw [cell_of_row w B j cur t _ h]; exact Array.getElem?_eq_some_iff.2 ⟨by omega, rfl⟩⟩
theorem Row.frozen {w : World} {B m : Nat} (h : Row w B m) (j : Nat) : w.frozen? ⟨B, j, none⟩ = false := by
  obtain ⟨cur, t, h, hm⟩ := h
  exact frozen_of_row w B j cur t h
theorem Row.set {w : World} {B m : Nat} (h : Row w B m) (j : Nat) (v : Value) : Row (w.setCell ⟨B, j, none⟩ v) B m := by
  obtain ⟨cur, t, h, hm⟩ := h
  exact ⟨_, t, heap_setCell_same w B j cur t v h, by simp [hm]⟩
theorem Row.congr {w w' : World} {B m : Nat} (h : Row w B m) (e : w'.heap[B]? = w.heap[B]?) : Row w' B m := by
  obtain ⟨cur, t, h, hm⟩ := h
  exact ⟨cur, t, e.trans h, hm⟩
theorem Row.below {w w' : World} {B m : Nat} (h : Row w B m) (hb : Below w.heap.size w w') : Row w' B m := h.congr (hb.block B h.lt)
theorem Row.made (w : World) (z : Array Value) (m t : Nat) : Row (w.alloc (.cells (madeCells z m) t)) w.heap.size m := ⟨_, t, heap_alloc_new _ _, by simp [madeCells]⟩
theorem set_other {w : World} {B j : Nat} {v : Value} {C : Nat} (h : C ≠ B) : (w.setCell ⟨B, j, none⟩ v).heap[C]? = w.heap[C]? := heap_setCell_other w ⟨B, j, none⟩ C v h

set_option maxHeartbeats 1000000 in
set_option maxRecDepth 100000 in
/-- zzCloneStrs, wherever the strings lie: the copy is of the call's own memory -/
theorem clone_wide (v : Value) (ss : List ByteArray) (w : World) (h : StrAt w v ss) (hl : ss.length ≤ 1048576) :
    Calls Tryd.prog 10 #[v] w fun e w' => ∃ v', e = .returned v' ∧ On (fun g => w.heap.size ≤ g ∧ g < w'.heap.size) (fun wx => StrAt wx v' ss) w' ∧ Below w.heap.size w w' := by
  have hnil := fun wx a n c => Lib.run_eql_slice_nil (P := Tryd.prog) wx 22 9 a n c 0 0 Tryd.underlying22
  obtain ⟨o, c, rfl, h1, h2⟩ := h
  have HC : Hid (0 < ss.length → ∃ b f, o = some ⟨b, f, none⟩ ∧ ∀ i, i < ss.length → w.cell? ⟨b, f + i, none⟩ = some (.string (ss.getD i ByteArray.empty))) := h2
  clear h2
  rcases o with _ | a
  · have h0 : ss.length = 0 := by
      by_cases h0 : 0 < ss.length
      · obtain ⟨b, f, e, _⟩ := HC.out h0
        cases e
      · omega
    have hs : ss = [] := List.length_eq_zero_iff.1 h0
    subst hs
    go_enter Tryd.func10, Tryd.ntmps10
    go_wp2
    go_ret
    exact ⟨.slice none 0 0, rfl, fun _ _ => ⟨none, 0, rfl, Nat.le_refl _, fun h => absurd h (Nat.not_lt_zero _)⟩, Below.refl _ _⟩
  · have hmk := fun wx => run_make_row' (P := Tryd.prog) 22 9 (.string ByteArray.empty) 16 Tryd.underlying22 Tryd.info9 rfl .i64 .i64 ss.length (by omega) (by omega) wx
    have hm := made_strs w ss.length ss
    have hb0 : Below w.heap.size w (w.alloc (.cells (madeCells #[.string ByteArray.empty] ss.length) 9)) := (Below.refl _ w).alloc (Nat.le_refl _) _
    have hz0 : w.heap.size < (w.alloc (.cells (madeCells #[.string ByteArray.empty] ss.length) 9)).heap.size := by simp
    go_enter Tryd.func10, Tryd.ntmps10
    go_wp2
    generalize w.alloc (.cells (madeCells #[.string ByteArray.empty] ss.length) 9) = w0 at *
    clear hmk
    go_loopw [4] (fun i wr => ∃ k : Nat, k ≤ ss.length ∧ i = .int .i64 k ∧ strsAt wr w.heap.size ss.length ss k ∧ w.heap.size < wr.heap.size ∧ Below w.heap.size w wr) (fun i _ => ss.length - (intOf i).toNat)
    case atStart => exact ⟨0, Nat.zero_le _, rfl, hm, hz0, hb0⟩
    case round =>
      obtain ⟨k, hk, rfl, hat, hz, hb⟩ := hrel
      clear hm hz0 hb0
      by_cases hlt : k < ss.length
      · obtain ⟨b, f, e, hc⟩ := HC.out (by omega)
        cases e
        have hcell := hc k hlt
        have hblk : b < w.heap.size := World.block_lt_of_cell? _ _ hcell
        replace hcell := cell_blocks hcell (hb.block b hblk)
        obtain ⟨y, HY⟩ : ∃ y, Hid (y = ss.getD k ByteArray.empty) := ⟨_, rfl⟩
        rw [← HY.out] at hcell
        obtain ⟨x, hx, hf, _⟩ := hat k hlt
        have HAT : Hid (strsAt wr w.heap.size ss.length ss k) := hat
        clear hat hc
        go_wp2
        go_roundw
        case rel => exact ⟨k + 1, by omega, by go_num, HAT.out.set _ HY.out hlt, by simpa using hz, hb.setCell (Nat.le_refl _) _⟩
        case measure => simp [intOf]; omega
      · obtain rfl : k = ss.length := by omega
        have HAT : Hid (strsAt wr w.heap.size ss.length ss ss.length) := hat
        clear hat
        go_wp2
        go_ret
        refine ⟨.slice (some ⟨w.heap.size, 0, none⟩) ss.length ss.length, rfl, fun wx hwx => ⟨_, _, rfl, Nat.le_refl _, fun _ => ⟨w.heap.size, 0, rfl, fun j hj => ?_⟩⟩, hb⟩
        obtain ⟨x, hx, _, he⟩ := HAT.out j hj
        rw [Nat.zero_add]
        refine cell_blocks ?_ (hwx _ ⟨Nat.le_refl _, hz⟩)
        rw [hx, he hj]
end Go.Proofs.Qxb6601693aDoor
