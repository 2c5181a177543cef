import Derived.Test.Qxb6601693aDoorG14
namespace Go.Proofs.Qxb6601693aDoor
open Go.RowKit

theorem finC {w wr w' : World} {n k N : Nat} {rs : List ResD} (hb : Below w.heap.size w wr) (hbw : Below wr.heap.size wr w') (hrow : Row wr w.heap.size (n * 4)) (hf : FillRes wr w.heap.size k rs) (hk : k < n) {ty cl na : ByteArray} {acts : List ByteArray} {v : Value}
    (e : rs.getD k ResD.none = ⟨ty, cl, na, acts⟩) (hN : wr.heap.size ≤ N) (hon : On (fun g => N ≤ g ∧ g < w'.heap.size) (fun w => StrAt w v acts) w') :
    Row (set4 w' w.heap.size (k * 4) (.string ty) (.string cl) (.string na) v) w.heap.size (n * 4) ∧ FillRes (set4 w' w.heap.size (k * 4) (.string ty) (.string cl) (.string na) v) w.heap.size (k + 1) rs ∧ Below w.heap.size w (set4 w' w.heap.size (k * 4) (.string ty) (.string cl) (.string na) v) := by
  have hlt := hrow.lt
  exact ⟨set4_row (hrow.below hbw) _ _ _ _ _, (hf.grow hlt hbw).set (hrow.below hbw) (by omega) e (hon.mono fun g hg => ⟨by omega, hg.2⟩), set4_below (below_aft hb hb.size hbw) (Nat.le_refl _) _ _ _ _ _⟩
theorem block4 {w : World} {B : Nat} {v0 v1 v2 v3 : Value} {t : Nat} (h : w.heap[B]? = some (.cells #[v0, v1, v2, v3] t)) :
    (w.cell? ⟨B, 0, none⟩ = some v0 ∧ w.cell? ⟨B, 1, none⟩ = some v1 ∧ w.cell? ⟨B, 2, none⟩ = some v2 ∧ w.cell? ⟨B, 3, none⟩ = some v3) ∧ ∀ i, w.frozen? ⟨B, i, none⟩ = false := by
  refine ⟨⟨?_, ?_, ?_, ?_⟩, fun i => Joins.unfrozen_of_block h i⟩
  all_goals rw [Joins.cell_of_block h]; rfl

theorem keep4 {w w' : World} {B : Nat} {v0 v1 v2 v3 : Value} (hb : Below w.heap.size w w') (h : w.cell? ⟨B, 0, none⟩ = some v0 ∧ w.cell? ⟨B, 1, none⟩ = some v1 ∧ w.cell? ⟨B, 2, none⟩ = some v2 ∧ w.cell? ⟨B, 3, none⟩ = some v3) :
    w'.cell? ⟨B, 0, none⟩ = some v0 ∧ w'.cell? ⟨B, 1, none⟩ = some v1 ∧ w'.cell? ⟨B, 2, none⟩ = some v2 ∧ w'.cell? ⟨B, 3, none⟩ = some v3 := by
  obtain ⟨h0, h1, h2, h3⟩ := h
  have e := hb.block B (World.block_lt_of_cell? _ _ h0)
  exact ⟨cell_blocks h0 e, cell_blocks h1 e, cell_blocks h2 e, cell_blocks h3 e⟩

set_option maxHeartbeats 4000000 in
set_option maxRecDepth 100000 in
/-- zzCloneRes: the same resources, all in memory of the call's own -/
theorem cloneRes_any (v : Value) (rs : List ResD) (w : World) (h : ResSl w v rs) (hl : rs.length ≤ 1048576) (hok : ∀ i, i < rs.length → ResOk (rs.getD i ResD.none)) :
    Calls Tryd.prog 20 #[v] w fun e w' => ∃ v', e = .returned v' ∧ ResSl w' v' rs ∧ Below w.heap.size w w' := by
  have hnil := fun wx a n c => Lib.run_eql_slice_nil (P := Tryd.prog) wx 34 47 a n c 0 0 Tryd.underlying34
  obtain ⟨o, c, rfl, h1, h2⟩ := h
  have HK : Hid (0 < rs.length → ∃ b f, o = some ⟨b, f, none⟩ ∧ ∀ i, i < rs.length → ResAt w b (f + i * 4) (rs.getD i ResD.none)) := h2
  have HOK : Hid (∀ i, i < rs.length → ResOk (rs.getD i ResD.none)) := hok
  clear h2 hok
  rcases o with _ | a
  · have h0 : rs.length = 0 := by
      by_cases h0 : 0 < rs.length
      · obtain ⟨b, f, e, _⟩ := HK.out h0
        cases e
      · omega
    have hs : rs = [] := List.length_eq_zero_iff.1 h0
    subst hs
    go_enter Tryd.func20, Tryd.ntmps20
    go_wp2
    go_ret
    exact ⟨.slice none 0 0, rfl, ⟨none, 0, rfl, Nat.le_refl _, fun h => absurd h (Nat.not_lt_zero _)⟩, Below.refl _ _⟩
  · have hmk := fun wx => make_struct (P := Tryd.prog) 34 47 _ 4 72 Tryd.underlying34 Tryd.info47 rs.length (by omega) (by omega) wx
    obtain ⟨n, HN⟩ : ∃ n, Hid (rs.length = n) := ⟨_, rfl⟩
    rw [HN.out] at HK HOK h1 hl hmk ⊢
    have hm := Row.made w (Value.agg #[.string ByteArray.empty, .string ByteArray.empty, .string ByteArray.empty, .slice none 0 0]).cells (n * 4) 47
    have hb0 : Below w.heap.size w (w.alloc (.cells (madeCells (Value.agg #[.string ByteArray.empty, .string ByteArray.empty, .string ByteArray.empty, .slice none 0 0]).cells (n * 4)) 47)) := (Below.refl _ w).alloc (Nat.le_refl _) _
    generalize (Value.agg #[.string ByteArray.empty, .string ByteArray.empty, .string ByteArray.empty, .slice none 0 0]).cells = zc at *
    go_enter Tryd.func20, Tryd.ntmps20
    go_wp2
    generalize w.alloc (.cells (madeCells zc (n * 4)) 47) = w0 at *
    clear hmk
    go_loopw [4] (fun i wr => ∃ k : Nat, k ≤ n ∧ i = .int .i64 k ∧ Row wr w.heap.size (n * 4) ∧ FillRes wr w.heap.size k rs ∧ Below w.heap.size w wr) (fun i _ => n - (intOf i).toNat)
    case atStart => exact ⟨0, Nat.zero_le _, rfl, hm, fun i hi => absurd hi (Nat.not_lt_zero _), hb0⟩
    case round =>
      obtain ⟨k, hk, rfl, hrow, hfill, hb⟩ := hrel
      clear hm hb0
      have HROW : Hid (Row wr w.heap.size (n * 4)) := hrow
      have HF : Hid (FillRes wr w.heap.size k rs) := hfill
      clear hfill
      by_cases hlt : k < n
      · obtain ⟨b, f, e, hc⟩ := HK.out (by omega)
        cases e
        obtain ⟨e0, e1, e2, v3, e3, hs3⟩ := (hc k hlt).below hb
        have hok3 := (HOK.out k hlt).2.2.2.1
        obtain ⟨r, HR⟩ : ∃ r, Hid (rs.getD k ResD.none = r) := ⟨_, rfl⟩
        rw [HR.out] at e0 e1 e2 hs3 hok3
        obtain ⟨rty, rcl, rna, racts⟩ := r
        simp only [] at e0 e1 e2
        obtain ⟨o3, n3, c3, rfl⟩ := hs3.form
        have HS3 : Hid (StrAt wr (.slice o3 n3 c3) racts) := hs3
        have HL3 : Hid (racts.length ≤ 1048576) := hok3
        have hBl : w.heap.size < wr.heap.size := hrow.lt
        have hBn : ¬ w.heap.size = wr.heap.size := by omega
        have hbl : b < wr.heap.size := World.block_lt_of_cell? _ _ e0
        have hbn : ¬ b = wr.heap.size := by omega
        clear hc hs3 hok3 hrow
        have hk0 : (0 : Int) ≤ (k : Int) := Int.natCast_nonneg _
        have hk1 : (k : Int) < (n : Int) := by omega
        have HB0 : Hid (Below wr.heap.size wr (wr.alloc (.cells #[.string rty, .string rcl, .string rna, .slice o3 n3 c3] 47)).drew) := ((Below.refl _ wr).alloc (Nat.le_refl _) _).drew
        go_wp2
        go_region_held3 (fun w' => w'.cell? ⟨wr.heap.size, 0, none⟩ = some (.string rty) ∧ w'.cell? ⟨wr.heap.size, 1, none⟩ = some (.string rcl) ∧ w'.cell? ⟨wr.heap.size, 2, none⟩ = some (.string rna) ∧ w'.cell? ⟨wr.heap.size, 3, none⟩ = some (.slice o3 n3 c3)) (first | with_reducible exact hS1 | go_keep)
          (first
            | (go_at_call 10; refine (clone_wide _ racts _ (HS3.out.below HB0.out) HL3.out).mono ?_; rintro e w' ⟨u1, rfl, hon1, hb1⟩; have hS1 := keep4 hb1 (by assumption); have HBW : Hid (Below wr.heap.size wr w') := below_trans HB0.out hb1; have hrow' := HROW.out.below HBW.out; obtain ⟨y0, d0⟩ := hrow'.cell (j := k * 4) (by omega); obtain ⟨y1, d1⟩ := hrow'.cell (j := k * 4 + 1) (by omega); obtain ⟨y2, d2⟩ := hrow'.cell (j := k * 4 + 2) (by omega); obtain ⟨y3, d3⟩ := hrow'.cell (j := k * 4 + 3) (by omega); have d4 := hrow'.frozen; clear hrow'; have HON : Hid _ := hon1; have hf1 := hon1.out.form; obtain ⟨o1, n1, c1, rfl⟩ := hf1; clear hon1 hb1))
        have HFIN : Hid _ := finC hb HBW.out HROW.out HF.out hlt HR.out (by simp) HON.out
        go_wp2
        go_roundw
        case rel => exact ⟨k + 1, by omega, by go_num, HFIN.out.1, HFIN.out.2.1, HFIN.out.2.2⟩
        case measure => simp [intOf]; omega
      · obtain rfl : k = n := by omega
        clear hrow
        go_wp2
        go_ret
        exact ⟨.slice (some ⟨w.heap.size, 0, none⟩) k k, rfl, HF.out.sl HN.out.symm (Nat.le_refl _), hb⟩
end Go.Proofs.Qxb6601693aDoor
