import Derived.Test.Qxb6601693aDoorG11
namespace Go.Proofs.Qxb6601693aDoor
open Go.RowKit

theorem StrAt.form {w : World} {v : Value} {ss : List ByteArray} (h : StrAt w v ss) : ∃ o n c, v = .slice o n c := by
  obtain ⟨o, c, rfl, _⟩ := h
  exact ⟨_, _, _, rfl⟩

set_option maxHeartbeats 1000000 in
set_option maxRecDepth 100000 in
/-- zzToAccess: the same resources, in memory of the call's own -/
theorem toAccess_any (v : Value) (rs : List ResD) (w : World) (h : ResSl w v rs) (hl : rs.length ≤ 1048576) :
    Calls Tryd.prog 23 #[v] w fun e w' => ∃ v', e = .returned v' ∧ ResSl w' v' rs ∧ Below w.heap.size w w' := by
  have hnil := fun wx a n c => Lib.run_eql_slice_nil (P := Tryd.prog) wx 34 47 a n c 0 0 Tryd.underlying34
  obtain ⟨o, c, rfl, h1, h2⟩ := h
  have HK : Hid (0 < rs.length → ∃ b f, o = some ⟨b, f, none⟩ ∧ ∀ i, i < rs.length → ResAt w b (f + i * 4) (rs.getD i ResD.none)) := h2
  clear h2
  rcases o with _ | a
  · have h0 : rs.length = 0 := by
      by_cases h0 : 0 < rs.length
      · obtain ⟨b, f, e, _⟩ := HK.out h0
        cases e
      · omega
    have hs : rs = [] := List.length_eq_zero_iff.1 h0
    subst hs
    go_enter Tryd.func23, Tryd.ntmps23
    go_wp2
    go_ret
    exact ⟨.slice none 0 0, rfl, ⟨none, 0, rfl, Nat.le_refl _, fun h => absurd h (Nat.not_lt_zero _)⟩, Below.refl _ _⟩
  · have hmk := fun wx => make_struct (P := Tryd.prog) 41 56 _ 4 72 Tryd.underlying41 Tryd.info56 rs.length (by omega) (by omega) wx
    obtain ⟨n, HN⟩ : ∃ n, Hid (rs.length = n) := ⟨_, rfl⟩
    rw [HN.out] at HK h1 hl hmk ⊢
    have hm := Row.made w (Value.agg #[.string ByteArray.empty, .string ByteArray.empty, .string ByteArray.empty, .slice none 0 0]).cells (n * 4) 56
    have hb0 : Below w.heap.size w (w.alloc (.cells (madeCells (Value.agg #[.string ByteArray.empty, .string ByteArray.empty, .string ByteArray.empty, .slice none 0 0]).cells (n * 4)) 56)) := (Below.refl _ w).alloc (Nat.le_refl _) _
    generalize (Value.agg #[.string ByteArray.empty, .string ByteArray.empty, .string ByteArray.empty, .slice none 0 0]).cells = zc at *
    go_enter Tryd.func23, Tryd.ntmps23
    go_wp2
    generalize w.alloc (.cells (madeCells zc (n * 4)) 56) = w0 at *
    clear hmk
    go_loopw [4] (fun i wr => ∃ k : Nat, k ≤ n ∧ i = .int .i64 k ∧ Row wr w.heap.size (n * 4) ∧ FillRes wr w.heap.size k rs ∧ Below w.heap.size w wr) (fun i _ => n - (intOf i).toNat)
    case atStart => exact ⟨0, Nat.zero_le _, rfl, hm, fun i hi => absurd hi (Nat.not_lt_zero _), hb0⟩
    case round =>
      obtain ⟨k, hk, rfl, hrow, hfill, hb⟩ := hrel
      clear hm hb0
      have HROW : Hid (Row wr w.heap.size (n * 4)) := hrow
      have HF : Hid (FillRes wr w.heap.size k rs) := hfill
      clear hfill
      by_cases hlt : k < n
      · obtain ⟨b, f, e, hc⟩ := HK.out (by omega)
        cases e
        obtain ⟨e0, e1, e2, v3, e3, hs3⟩ := (hc k hlt).below hb
        have HS3 : Hid (On (Off w.heap.size wr) (fun w => StrAt w v3 (rs.getD k ResD.none).acts) wr) := by
          have hs0 : StrAt w v3 (rs.getD k ResD.none).acts := by
            obtain ⟨_, _, _, v', hv', hs'⟩ := hc k hlt
            have e3' := cell_blocks hv' (hb.block b (World.block_lt_of_cell? _ _ hv'))
            rw [e3] at e3'
            cases e3'
            exact hs'
          exact (hs0.on.move (fun g hg => hb.block g hg)).mono fun g hg => ⟨by omega, Nat.lt_of_lt_of_le hg hb.size⟩
        obtain ⟨r, HR⟩ : ∃ r, Hid (rs.getD k ResD.none = r) := ⟨_, rfl⟩
        rw [HR.out] at e0 e1 e2 HS3
        obtain ⟨rty, rcl, rna, racts⟩ := r
        simp only [] at e0 e1 e2
        obtain ⟨o3, n3, c3, rfl⟩ := hs3.form
        obtain ⟨y0, d0⟩ := hrow.cell (j := k * 4) (by omega)
        obtain ⟨y1, d1⟩ := hrow.cell (j := k * 4 + 1) (by omega)
        obtain ⟨y2, d2⟩ := hrow.cell (j := k * 4 + 2) (by omega)
        obtain ⟨y3, d3⟩ := hrow.cell (j := k * 4 + 3) (by omega)
        have d4 := hrow.frozen
        clear hc hs3 hrow
        go_wp2
        go_roundw
        case rel =>
          exact ⟨k + 1, by omega, by go_num, set4_row HROW.out (k * 4) (.string rty) (.string rcl) (.string rna) (.slice o3 n3 c3), HF.out.set HROW.out (by omega) HR.out HS3.out, set4_below hb (Nat.le_refl _) (k * 4) (.string rty) (.string rcl) (.string rna) (.slice o3 n3 c3)⟩
        case measure => simp [intOf]; omega
      · obtain rfl : k = n := by omega
        clear hrow
        go_wp2
        go_ret
        exact ⟨.slice (some ⟨w.heap.size, 0, none⟩) k k, rfl, HF.out.sl HN.out.symm (Nat.le_refl _), hb⟩
end Go.Proofs.Qxb6601693aDoor
