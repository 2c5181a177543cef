import Derived.Test.Qxb6601856aDoorW2
import Derived.Lib.SlBytesConst
namespace Go.Proofs.Qxb6601856aDoor
open Go.RowKit Go.Shelf

/-- the slice p, n, c holds the bytes l -/
def Holds (w : World) (p : Option Addr) (n c : Nat) (l : List UInt8) : Prop := l.length = n ∧ n ≤ c ∧ c ≤ 524288 ∧ (p = none → c = 0) ∧ Lib.BytesAt w p n l
theorem Holds.below {w w' : World} {p : Option Addr} {n c : Nat} {l : List UInt8} (h : Holds w p n c l) (hb : Below w.heap.size w w') : Holds w' p n c l := ⟨h.1, h.2.1, h.2.2.1, h.2.2.2.1, h.2.2.2.2.below hb⟩
theorem Holds.take {w : World} {p : Option Addr} {n c : Nat} {l : List UInt8} (h : Holds w p n c l) (i : Nat) (hi : i ≤ n) : Holds w p i c (l.take i) := by
  obtain ⟨h1, h2, h3, h4, h5⟩ := h
  refine ⟨by rw [List.length_take]; omega, by omega, h3, h4, fun h0 => ?_⟩
  obtain ⟨b, o, e, hc⟩ := h5 (by omega)
  refine ⟨b, o, e, fun j hj => ?_⟩
  rw [hc j (by omega), List.getD_eq_getElem?_getD, List.getD_eq_getElem?_getD, List.getElem?_take, if_pos hj]
theorem Holds.fromV {w : World} {p : Option Addr} {n c : Nat} {l : List UInt8} (h : Holds w p n c l) (j : Nat) (hj : j ≤ n) : ∃ p', Lib.fromV p n c j = .slice p' (n - j) (c - j) ∧ Holds w p' (n - j) (c - j) (l.drop j) := by
  obtain ⟨h1, h2, h3, h4, h5⟩ := h
  refine ⟨_, rfl, by rw [List.length_drop]; omega, by omega, by omega, ?_, ?_⟩
  · split
    · intro _; omega
    · rename_i hne
      cases p with
      | none => have := h4 rfl; intro _; omega
      | some x => intro e; cases e
  · intro h0
    obtain ⟨b, o, rfl, hc⟩ := h5 (by omega)
    rw [if_neg (by omega)]
    refine ⟨b, o + j, by show some ((⟨b, o, none⟩ : Addr).add j) = _; rw [Go.WideShapes.add_plain], fun i hi => ?_⟩
    rw [Nat.add_assoc, hc (j + i) (by omega), List.getD_eq_getElem?_getD, List.getD_eq_getElem?_getD, List.getElem?_drop]
theorem Holds.nil (w : World) : Holds w none 0 0 [] := ⟨rfl, Nat.le_refl _, by omega, fun _ => rfl, fun h => absurd h (Nat.lt_irrefl _)⟩

theorem trimRight_prefix (l cs : List UInt8) : Lib.trimRightS l cs <+: l := by
  unfold Lib.trimRightS
  have := List.dropWhile_suffix (cs.contains ·) (l := l.reverse)
  rw [← List.reverse_prefix, List.reverse_reverse] at this
  exact this
theorem trimRight_take (l cs : List UInt8) : Lib.trimRightS l cs = l.take (Lib.trimRightS l cs).length := List.prefix_iff_eq_take.1 (trimRight_prefix l cs)
theorem trim_drop (l cs : List UInt8) : Lib.trimS l cs = (Lib.trimRightS l cs).drop ((Lib.trimRightS l cs).length - (Lib.trimS l cs).length) := by
  have : Lib.trimS l cs <:+ Lib.trimRightS l cs := List.dropWhile_suffix _
  exact List.suffix_iff_eq_drop.1 this

theorem toBytes (bs : List UInt8) : Lib.bytesOf (bs.map fun b => (b.toNat : Int)) = bs := by
  unfold Lib.bytesOf
  rw [List.map_map]
  conv => rhs; rw [← List.map_id bs]
  refine List.map_congr_left fun b _ => ?_
  simp
theorem bytes_in {w : World} {p : Option Addr} {n : Nat} {bs : List UInt8} (h : Lib.BytesAt w p n bs) (_hb : bs.length = n) : Lib.BytesIn w p n (bs.map fun b => (b.toNat : Int)) := fun h0 => by
  obtain ⟨b, o, e, hc⟩ := h h0
  refine ⟨b, o, e, fun i hi => ?_⟩
  rw [hc i hi, List.getD_eq_getElem?_getD, List.getD_eq_getElem?_getD, List.getElem?_map, List.getElem?_eq_getElem (by omega)]
  rfl

theorem shaped_below {w w' : World} (h : w.ShapedOpen Tryd.prog) (hb : Below w.heap.size w w') : w'.ShapedOpen Tryd.prog := h.keptBut (hb.frame (fun _ => False)) (fun _ h => h.elim)
theorem below_drew {B : Nat} {w wr : World} (h : Below B w wr) (n : Nat) : Below B w (wr.drewN n) := ⟨h.os, h.tape, h.output, h.size, h.block⟩
theorem below_after {B : Nat} {w wr w' : World} (h : Below B w wr) (hB : B ≤ wr.heap.size) (h2 : Below wr.heap.size wr w') : Below B w w' :=
  ⟨h2.os.trans h.os, h2.tape.trans h.tape, h2.output.trans h.output, Nat.le_trans h.size h2.size, fun k hk => (h2.block k (by omega)).trans (h.block k hk)⟩

theorem cut_con (p : Option Addr) (n c B : Nat) (l : List UInt8) (w : World) (hsh : w.ShapedOpen Tryd.prog) (h : Holds w p n c l) (hB : w.cell? ⟨B, 0, none⟩ = some (.int .u8 44)) :
    Calls Tryd.prog 17 #[.slice p n c, .slice (some ⟨B, 0, none⟩) 1 1] w fun e w' => e = .returned (Lib.cutV p n c 1 (Lib.index l [44])) ∧ ∃ q, w' = w.drewN q := by
  obtain ⟨h1, h2, h3, h4, h5⟩ := h
  obtain ⟨m, hm⟩ := Tryd.laysM185.s1_3 w hsh
  have hr : ∀ x ∈ l.map (fun b => (b.toNat : Int)), 0 ≤ x ∧ x < 256 := fun x hx => by
    obtain ⟨b, _, rfl⟩ := List.mem_map.1 hx
    have := b.toNat_lt
    constructor <;> omega
  have hsep : Lib.BytesIn w (some ⟨B, 0, none⟩) 1 [44] := fun _ => ⟨B, 0, rfl, fun i hi => by
    obtain rfl : i = 0 := by omega
    exact hB⟩
  have := Any.bytes_Cut_all Tryd.lays4 p (some ⟨B, 0, none⟩) n c 1 1 (l.map fun b => (b.toNat : Int)) [44] m w (by rw [List.length_map]; exact h1) rfl hr (by simp) (bytes_in h5 h1) hsep h4 h2 (by omega) (by omega) hm
  rw [toBytes] at this
  exact this
theorem trim_con (p : Option Addr) (n c : Nat) (l : List UInt8) (w : World) (h : Holds w p n c l) :
    Calls Tryd.prog 18 #[.slice p n c, .string ⟨#[32, 9]⟩] w fun e w' => e = .returned (Lib.leftV p (Lib.trimRightS l [32, 9]).length c ((Lib.trimRightS l [32, 9]).length - (Lib.trimS l [32, 9]).length)) ∧ Below w.heap.size w w' := by
  obtain ⟨h1, h2, h3, h4, h5⟩ := h
  have h27 : (Tryd.prog.info? 36).map (fun i => (i.zero, i.size)) = some (some (.agg (Array.replicate 256 (.bool false))), 256) := by kernel_rfl
  exact Any.bytes_Trim_ascii Tryd.lays6 (zero_of_info h27).1 (zero_of_info h27).2 p n c l ⟨#[32, 9]⟩ w h1 h2 (by omega) h5 (by decide) (fun j b hj => by
    match j, hj with
    | 0, hj => cases hj; decide
    | 1, hj => cases hj; decide
    | j + 2, hj => simp at hj)
/-- what bytes.Trim hands back holds the trimmed bytes -/
theorem trim_holds {p : Option Addr} {n c : Nat} {l : List UInt8} {w : World} (h : Holds w p n c l) : ∃ p' n' c', Lib.leftV p (Lib.trimRightS l [32, 9]).length c ((Lib.trimRightS l [32, 9]).length - (Lib.trimS l [32, 9]).length) = .slice p' n' c' ∧ Holds w p' n' c' (Lib.trimS l [32, 9]) := by
  have hle : (Lib.trimRightS l [32, 9]).length ≤ n := by have := (trimRight_prefix l [32, 9]).length_le; rw [h.1] at this; exact this
  have ht := h.take _ hle
  rw [← trimRight_take] at ht
  have hsuf : (Lib.trimS l [32, 9]).length ≤ (Lib.trimRightS l [32, 9]).length := (show Lib.trimS l [32, 9] <:+ Lib.trimRightS l [32, 9] from List.dropWhile_suffix _).length_le
  unfold Lib.leftV
  split
  · rename_i e
    have h0 : Lib.trimS l [32, 9] = [] := by
      rw [trim_drop, e, List.drop_length]
    rw [h0]
    exact ⟨none, 0, 0, rfl, Holds.nil w⟩
  · obtain ⟨p', e, hh⟩ := ht.fromV ((Lib.trimRightS l [32, 9]).length - (Lib.trimS l [32, 9]).length) (by omega)
    rw [← trim_drop] at hh
    exact ⟨p', _, _, e, hh⟩

/-- what nextElement hands back -/
def NextPost (w : World) (piece rest : List UInt8) (e : Ending) (w' : World) : Prop :=
  ∃ p1 n1 c1 p2 n2 c2, e = .returned (.tuple #[.slice p1 n1 c1, .slice p2 n2 c2]) ∧ Holds w' p1 n1 c1 (Lib.trimS piece [32, 9]) ∧ Holds w' p2 n2 c2 rest ∧ Below w.heap.size w w'

set_option maxHeartbeats 1000000 in
set_option maxRecDepth 100000 in
theorem next_any (p : Option Addr) (n c : Nat) (l : List UInt8) (w : World) (hsh : w.ShapedOpen Tryd.prog) (h : Holds w p n c l) :
    (Lib.index l [44] < 0 → Calls Tryd.prog 15 #[.slice p n c] w (NextPost w l [])) ∧ ∀ i : Nat, Lib.index l [44] = i → Calls Tryd.prog 15 #[.slice p n c] w (NextPost w (l.take i) (l.drop (i + 1))) := by
  have hb0 : Below w.heap.size w (w.alloc (.cells #[.int .u8 44] 5 (1, 2))) := (Below.refl _ w).alloc (Nat.le_refl _) _
  have hz0 : (w.alloc (.cells #[.int .u8 44] 5 (1, 2))).heap.size = w.heap.size + 1 := by simp
  have hh := h.below hb0
  have hcut := cut_con p n c w.heap.size l _ (shaped_below hsh hb0) hh (World.cell?_alloc_mark w _ _ _ 0)
  have hconv : (convert 22 22 (.slice (some ⟨w.heap.size, 0, none⟩) 1 1)).run Tryd.prog (w.alloc (.cells #[.int .u8 44] 5)) = .ok (.slice (some ⟨w.heap.size, 0, none⟩) 1 1) (w.alloc (.cells #[.int .u8 44] 5 (1, 2))) := Lib.run_convert_bytes_const w 22 5 #[.int .u8 44] 1 1 Tryd.underlying22 Tryd.underlying5
  refine ⟨fun hneg => ?_, fun i hi => ?_⟩
  · have e : Lib.cutV p n c 1 (Lib.index l [44]) = .tuple #[.slice p n c, .slice none 0 0, .bool false] := by unfold Lib.cutV; rw [if_neg (by omega)]
    rw [e] at hcut
    obtain ⟨p', n', c', htv, hh'⟩ := trim_holds hh
    have htrim : ∀ wx, Holds wx p n c l → Calls Tryd.prog 18 #[.slice p n c, .string ⟨#[32, 9]⟩] wx fun e w' => e = .returned (.slice p' n' c') ∧ Below wx.heap.size wx w' := fun wx hx => by
      have := trim_con p n c l wx hx
      rw [htv] at this
      exact this
    have HH : Hid (Holds (w.alloc (.cells #[.int .u8 44] 5 (1, 2))) p n c l) := hh
    have HH' : Hid (Holds (w.alloc (.cells #[.int .u8 44] 5 (1, 2))) p' n' c' (Lib.trimS l [32, 9])) := hh'
    clear hh hh' h hsh htv e
    go_enter Tryd.func15, Tryd.ntmps15
    go_wp2_with (first
      | (go_at_call 17; refine hcut.mono ?_; rintro e w2 ⟨rfl, q, hw2⟩; have hb2 : Below (w.alloc (.cells #[.int .u8 44] 5 (1, 2))).heap.size (w.alloc (.cells #[.int .u8 44] 5 (1, 2))) w2 := (by rw [hw2]; exact below_drew (Below.refl _ _) _); clear hw2)
      | (go_at_call 18; refine (htrim _ (HH.out.below hb2)).mono ?_; rintro e w3 ⟨rfl, hb3⟩))
    go_ret2
    have hs2 := hb2.size
    exact ⟨_, _, _, _, _, _, rfl, (HH'.out.below hb2).below hb3, Holds.nil _, below_after (below_after hb0 (by omega) hb2) (by omega) hb3⟩
  · have hlt : i + 1 ≤ n := by
      have := Lib.index_room l [44] (by omega)
      rw [hi, h.1] at this
      have e1 : ([44] : List UInt8).length = 1 := rfl
      rw [e1] at this
      omega
    obtain ⟨p2, hfv, hrest⟩ := hh.fromV (i + 1) hlt
    have e : Lib.cutV p n c 1 (Lib.index l [44]) = .tuple #[.slice p i c, .slice p2 (n - (i + 1)) (c - (i + 1)), .bool true] := by unfold Lib.cutV; rw [hi, if_pos (by omega), Int.toNat_natCast, hfv]
    rw [e] at hcut
    have hpc := hh.take i (by omega)
    obtain ⟨p', n', c', htv, hh'⟩ := trim_holds hpc
    have htrim : ∀ wx, Holds wx p i c (l.take i) → Calls Tryd.prog 18 #[.slice p i c, .string ⟨#[32, 9]⟩] wx fun e w' => e = .returned (.slice p' n' c') ∧ Below wx.heap.size wx w' := fun wx hx => by
      have := trim_con p i c (l.take i) wx hx
      rw [htv] at this
      exact this
    have HH : Hid (Holds (w.alloc (.cells #[.int .u8 44] 5 (1, 2))) p i c (l.take i)) := hpc
    have HH' : Hid (Holds (w.alloc (.cells #[.int .u8 44] 5 (1, 2))) p' n' c' (Lib.trimS (l.take i) [32, 9])) := hh'
    have HR : Hid (Holds (w.alloc (.cells #[.int .u8 44] 5 (1, 2))) p2 (n - (i + 1)) (c - (i + 1)) (l.drop (i + 1))) := hrest
    clear hh hh' h hsh htv e hpc hrest hfv
    generalize n - (i + 1) = n2 at *
    generalize c - (i + 1) = c2 at *
    go_enter Tryd.func15, Tryd.ntmps15
    go_wp2_with (first
      | (go_at_call 17; refine hcut.mono ?_; rintro e w2 ⟨rfl, q, hw2⟩; have hb2 : Below (w.alloc (.cells #[.int .u8 44] 5 (1, 2))).heap.size (w.alloc (.cells #[.int .u8 44] 5 (1, 2))) w2 := (by rw [hw2]; exact below_drew (Below.refl _ _) _); clear hw2)
      | (go_at_call 18; refine (htrim _ (HH.out.below hb2)).mono ?_; rintro e w3 ⟨rfl, hb3⟩))
    go_ret2
    have hs2 := hb2.size
    exact ⟨_, _, _, _, _, _, rfl, (HH'.out.below hb2).below hb3, (HR.out.below hb2).below hb3, below_after (below_after hb0 (by omega) hb2) (by omega) hb3⟩
end Go.Proofs.Qxb6601856aDoor
