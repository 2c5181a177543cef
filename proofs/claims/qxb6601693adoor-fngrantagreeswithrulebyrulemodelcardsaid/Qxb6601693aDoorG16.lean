import Derived.Test.Qxb6601693aDoorG15
import Derived.Test.Qxb6601693aDoorW6
namespace Go.Proofs.Qxb6601693aDoor
open Go.RowKit

theorem finQ {w wr w' : World} {n k : Nat} {rs : List RuleD} (hb : Below w.heap.size w wr) (hbw : Below wr.heap.size wr w') (hrow : Row wr w.heap.size (n * 5)) (hf : FillRule wr w.heap.size k rs) (hk : k < n) {ac ty : ByteArray} {us : Bool} {lits acts : List ByteArray} {u1 u2 : Value}
    (e : rs.getD k RuleD.none = ⟨ac, ty, lits, us, acts⟩) (h1 : StrAt w u1 lits) (h2 : StrAt w u2 acts) :
    Row (set5 w' w.heap.size (k * 5) (.string ac) (.string ty) u1 (.bool us) u2) w.heap.size (n * 5) ∧ FillRule (set5 w' w.heap.size (k * 5) (.string ac) (.string ty) u1 (.bool us) u2) w.heap.size (k + 1) rs ∧ Below w.heap.size w (set5 w' w.heap.size (k * 5) (.string ac) (.string ty) u1 (.bool us) u2) := by
  have hlt := hrow.lt
  have hbb := below_aft hb hb.size hbw
  exact ⟨set5_row (hrow.below hbw) _ _ _ _ _ _, (hf.grow hlt hbw).set (hrow.below hbw) (by omega) e ((h1.on.move (fun g hg => hbb.block g hg)).mono fun g hg => ⟨by omega, Nat.lt_of_lt_of_le hg hbb.size⟩) ((h2.on.move (fun g hg => hbb.block g hg)).mono fun g hg => ⟨by omega, Nat.lt_of_lt_of_le hg hbb.size⟩), set5_below hbb (Nat.le_refl _) _ _ _ _ _ _⟩

set_option maxHeartbeats 4000000 in
set_option maxRecDepth 100000 in
/-- zzRules: the same rules, their slices shared -/
theorem rules_any (v : Value) (rs : List RuleD) (w : World) (h : RuleSl w v rs) (hl : rs.length ≤ 1048576) :
    Calls Tryd.prog 21 #[v] w fun e w' => ∃ v', e = .returned v' ∧ RuleSl w' v' rs ∧ Below w.heap.size w w' := by
  have hnil := fun wx a n c => Lib.run_eql_slice_nil (P := Tryd.prog) wx 33 49 a n c 0 0 Tryd.underlying33
  obtain ⟨o, c, rfl, h1, h2⟩ := h
  have HK : Hid (0 < rs.length → ∃ b f, o = some ⟨b, f, none⟩ ∧ ∀ i, i < rs.length → RuleAt w b (f + i * 5) (rs.getD i RuleD.none)) := h2
  clear h2
  rcases o with _ | a
  · have h0 : rs.length = 0 := by
      by_cases h0 : 0 < rs.length
      · obtain ⟨b, f, e, _⟩ := HK.out h0
        cases e
      · omega
    have hs : rs = [] := List.length_eq_zero_iff.1 h0
    subst hs
    go_enter Tryd.func21, Tryd.ntmps21
    go_wp2
    go_ret
    exact ⟨.slice none 0 0, rfl, ⟨none, 0, rfl, Nat.le_refl _, fun h => absurd h (Nat.not_lt_zero _)⟩, Below.refl _ _⟩
  · have hmk := fun wx => make_struct (P := Tryd.prog) 39 51 _ 5 88 Tryd.underlying39 Tryd.info51 rs.length (by omega) (by omega) wx
    obtain ⟨n, HN⟩ : ∃ n, Hid (rs.length = n) := ⟨_, rfl⟩
    rw [HN.out] at HK h1 hl hmk ⊢
    have hm := Row.made w (Value.agg #[.string ByteArray.empty, .string ByteArray.empty, .slice none 0 0, .bool false, .slice none 0 0]).cells (n * 5) 51
    have hb0 : Below w.heap.size w (w.alloc (.cells (madeCells (Value.agg #[.string ByteArray.empty, .string ByteArray.empty, .slice none 0 0, .bool false, .slice none 0 0]).cells (n * 5)) 51)) := (Below.refl _ w).alloc (Nat.le_refl _) _
    generalize (Value.agg #[.string ByteArray.empty, .string ByteArray.empty, .slice none 0 0, .bool false, .slice none 0 0]).cells = zc at *
    go_enter Tryd.func21, Tryd.ntmps21
    go_wp2
    generalize w.alloc (.cells (madeCells zc (n * 5)) 51) = w0 at *
    clear hmk
    go_loopw [4] (fun i wr => ∃ k : Nat, k ≤ n ∧ i = .int .i64 k ∧ Row wr w.heap.size (n * 5) ∧ FillRule wr w.heap.size k rs ∧ Below w.heap.size w wr) (fun i _ => n - (intOf i).toNat)
    case atStart => exact ⟨0, Nat.zero_le _, rfl, hm, fun i hi => absurd hi (Nat.not_lt_zero _), hb0⟩
    case round =>
      obtain ⟨k, hk, rfl, hrow, hfill, hb⟩ := hrel
      clear hm hb0
      have HROW : Hid (Row wr w.heap.size (n * 5)) := hrow
      have HF : Hid (FillRule wr w.heap.size k rs) := hfill
      clear hfill
      by_cases hlt : k < n
      · obtain ⟨b, f, e, hc⟩ := HK.out (by omega)
        cases e
        obtain ⟨e0, e1, ⟨v1, e2, hs1⟩, e3, v3, e4, hs3⟩ := hc k hlt
        have eb := hb.block b (World.block_lt_of_cell? _ _ e0)
        replace e0 := cell_blocks e0 eb
        replace e1 := cell_blocks e1 eb
        replace e2 := cell_blocks e2 eb
        replace e3 := cell_blocks e3 eb
        replace e4 := cell_blocks e4 eb
        obtain ⟨r, HR⟩ : ∃ r, Hid (rs.getD k RuleD.none = r) := ⟨_, rfl⟩
        rw [HR.out] at e0 e1 e3 hs1 hs3
        obtain ⟨rac, rty, rlits, rus, racts⟩ := r
        simp only [] at e0 e1 e3
        obtain ⟨o1, n1, c1, rfl⟩ := hs1.form
        obtain ⟨o3, n3, c3, rfl⟩ := hs3.form
        have HS1 : Hid (StrAt w (.slice o1 n1 c1) rlits) := hs1
        have HS3 : Hid (StrAt w (.slice o3 n3 c3) racts) := hs3
        have hBl : w.heap.size < wr.heap.size := hrow.lt
        have hBn : ¬ w.heap.size = wr.heap.size := by omega
        have hbl : b < wr.heap.size := World.block_lt_of_cell? _ _ e0
        have hbn : ¬ b = wr.heap.size := by omega
        have hk0 : (0 : Int) ≤ (k : Int) := Int.natCast_nonneg _
        have hk1 : (k : Int) < (n : Int) := by omega
        have HB0 : Hid (Below wr.heap.size wr (wr.alloc (.cells #[.string rac, .string rty, .slice o1 n1 c1, .bool rus, .slice o3 n3 c3] 49)).drew) := ((Below.refl _ wr).alloc (Nat.le_refl _) _).drew
        clear hc hs1 hs3 hrow eb
        go_wp2
        go_region_held3 (fun w' => w'.cell? ⟨wr.heap.size, 0, none⟩ = some (.string rac) ∧ w'.cell? ⟨wr.heap.size, 1, none⟩ = some (.string rty) ∧ w'.cell? ⟨wr.heap.size, 2, none⟩ = some (.slice o1 n1 c1) ∧ w'.cell? ⟨wr.heap.size, 3, none⟩ = some (.bool rus) ∧ w'.cell? ⟨wr.heap.size, 4, none⟩ = some (.slice o3 n3 c3)) (first | with_reducible exact hS1 | go_keep)
          (first
            | (go_at_call 12; refine (pattern_any o1 n1 c1 rus _).mono ?_; rintro e w' ⟨rfl, hb1⟩; have hS1 := keep5 hb1 (by assumption); have HBW : Hid (Below wr.heap.size wr w') := below_trans HB0.out hb1; have hrow' := HROW.out.below HBW.out; obtain ⟨y0, d0⟩ := hrow'.cell (j := k * 5) (by omega); obtain ⟨y1, d1⟩ := hrow'.cell (j := k * 5 + 1) (by omega); obtain ⟨y2, d2⟩ := hrow'.cell (j := k * 5 + 2) (by omega); obtain ⟨y3, d3⟩ := hrow'.cell (j := k * 5 + 3) (by omega); obtain ⟨y4, d5⟩ := hrow'.cell (j := k * 5 + 4) (by omega); have d4 := hrow'.frozen; clear hrow' hb1))
        have HFIN : Hid _ := finQ hb HBW.out HROW.out HF.out hlt HR.out HS1.out HS3.out
        go_wp2
        go_roundw
        case rel => exact ⟨k + 1, by omega, by go_num, HFIN.out.1, HFIN.out.2.1, HFIN.out.2.2⟩
        case measure => simp [intOf]; omega
      · obtain rfl : k = n := by omega
        clear hrow
        go_wp2
        go_ret
        exact ⟨.slice (some ⟨w.heap.size, 0, none⟩) k k, rfl, HF.out.sl HN.out.symm (Nat.le_refl _), hb⟩
end Go.Proofs.Qxb6601693aDoor
