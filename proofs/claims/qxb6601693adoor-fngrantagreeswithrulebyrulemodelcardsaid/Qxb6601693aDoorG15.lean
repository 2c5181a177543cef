import Derived.Test.Qxb6601693aDoorG14
namespace Go.Proofs.Qxb6601693aDoor
open Go.RowKit

theorem finR {w wr w' : World} {n k N : Nat} {rs : List RuleD} (hb : Below w.heap.size w wr) (hbw : Below wr.heap.size wr w') (hrow : Row wr w.heap.size (n * 5)) (hf : FillRule wr w.heap.size k rs) (hk : k < n) {ac ty : ByteArray} {us : Bool} {lits acts : List ByteArray} {u1 u2 : Value}
    (e : rs.getD k RuleD.none = ⟨ac, ty, lits, us, acts⟩) (hN : wr.heap.size ≤ N) (hon1 : On (fun g => N ≤ g ∧ g < w'.heap.size) (fun w => StrAt w u1 lits) w') (hon2 : On (fun g => N ≤ g ∧ g < w'.heap.size) (fun w => StrAt w u2 acts) w') :
    Row (set5 w' w.heap.size (k * 5) (.string ac) (.string ty) u1 (.bool us) u2) w.heap.size (n * 5) ∧ FillRule (set5 w' w.heap.size (k * 5) (.string ac) (.string ty) u1 (.bool us) u2) w.heap.size (k + 1) rs ∧ Below w.heap.size w (set5 w' w.heap.size (k * 5) (.string ac) (.string ty) u1 (.bool us) u2) := by
  have hlt := hrow.lt
  exact ⟨set5_row (hrow.below hbw) _ _ _ _ _ _, (hf.grow hlt hbw).set (hrow.below hbw) (by omega) e (hon1.mono fun g hg => ⟨by omega, hg.2⟩) (hon2.mono fun g hg => ⟨by omega, hg.2⟩), set5_below (below_aft hb hb.size hbw) (Nat.le_refl _) _ _ _ _ _ _⟩

set_option maxHeartbeats 4000000 in
set_option maxRecDepth 100000 in
/-- zzCloneRules -/
theorem cloneRules_any (v : Value) (rs : List RuleD) (w : World) (h : RuleSl w v rs) (hl : rs.length ≤ 1048576) (hok : ∀ i, i < rs.length → RuleOk (rs.getD i RuleD.none)) :
    Calls Tryd.prog 19 #[v] w fun e w' => ∃ v', e = .returned v' ∧ RuleSl w' v' rs ∧ Below w.heap.size w w' := by
  have hnil := fun wx a n c => Lib.run_eql_slice_nil (P := Tryd.prog) wx 33 49 a n c 0 0 Tryd.underlying33
  obtain ⟨o, c, rfl, h1, h2⟩ := h
  have HK : Hid (0 < rs.length → ∃ b f, o = some ⟨b, f, none⟩ ∧ ∀ i, i < rs.length → RuleAt w b (f + i * 5) (rs.getD i RuleD.none)) := h2
  have HOK : Hid (∀ i, i < rs.length → RuleOk (rs.getD i RuleD.none)) := hok
  clear h2 hok
  rcases o with _ | a
  · have h0 : rs.length = 0 := by
      by_cases h0 : 0 < rs.length
      · obtain ⟨b, f, e, _⟩ := HK.out h0
        cases e
      · omega
    have hs : rs = [] := List.length_eq_zero_iff.1 h0
    subst hs
    go_enter Tryd.func19, Tryd.ntmps19
    go_wp2
    go_ret
    exact ⟨.slice none 0 0, rfl, ⟨none, 0, rfl, Nat.le_refl _, fun h => absurd h (Nat.not_lt_zero _)⟩, Below.refl _ _⟩
  · have hmk := fun wx => make_struct (P := Tryd.prog) 33 49 _ 5 88 Tryd.underlying33 Tryd.info49 rs.length (by omega) (by omega) wx
    obtain ⟨n, HN⟩ : ∃ n, Hid (rs.length = n) := ⟨_, rfl⟩
    rw [HN.out] at HK HOK h1 hl hmk ⊢
    have hm := Row.made w (Value.agg #[.string ByteArray.empty, .string ByteArray.empty, .slice none 0 0, .bool false, .slice none 0 0]).cells (n * 5) 49
    have hb0 : Below w.heap.size w (w.alloc (.cells (madeCells (Value.agg #[.string ByteArray.empty, .string ByteArray.empty, .slice none 0 0, .bool false, .slice none 0 0]).cells (n * 5)) 49)) := (Below.refl _ w).alloc (Nat.le_refl _) _
    generalize (Value.agg #[.string ByteArray.empty, .string ByteArray.empty, .slice none 0 0, .bool false, .slice none 0 0]).cells = zc at *
    go_enter Tryd.func19, Tryd.ntmps19
    go_wp2
    generalize w.alloc (.cells (madeCells zc (n * 5)) 49) = w0 at *
    clear hmk
    go_loopw [4] (fun i wr => ∃ k : Nat, k ≤ n ∧ i = .int .i64 k ∧ Row wr w.heap.size (n * 5) ∧ FillRule wr w.heap.size k rs ∧ Below w.heap.size w wr) (fun i _ => n - (intOf i).toNat)
    case atStart => exact ⟨0, Nat.zero_le _, rfl, hm, fun i hi => absurd hi (Nat.not_lt_zero _), hb0⟩
    case round =>
      obtain ⟨k, hk, rfl, hrow, hfill, hb⟩ := hrel
      clear hm hb0
      have HROW : Hid (Row wr w.heap.size (n * 5)) := hrow
      have HF : Hid (FillRule wr w.heap.size k rs) := hfill
      clear hfill
      by_cases hlt : k < n
      · obtain ⟨b, f, e, hc⟩ := HK.out (by omega)
        cases e
        obtain ⟨e0, e1, ⟨v1, e2, hs1⟩, e3, v3, e4, hs3⟩ := (hc k hlt).below hb
        obtain ⟨_, _, ⟨hk1, _⟩, ⟨hk2, _⟩⟩ := HOK.out k hlt
        obtain ⟨r, HR⟩ : ∃ r, Hid (rs.getD k RuleD.none = r) := ⟨_, rfl⟩
        rw [HR.out] at e0 e1 e3 hs1 hs3 hk1 hk2
        obtain ⟨rac, rty, rlits, rus, racts⟩ := r
        simp only [] at e0 e1 e3
        have hcl := cloneRule_any rac rty v1 v3 rus rlits racts wr hs1 hs3 hk1 hk2
        clear hc hs1 hs3 hrow hk1 hk2
        go_wp2_with (first | (go_at_call 34; refine hcl.mono ?_; rintro e w' ⟨u, rfl, ⟨u1, u2, rfl, hon1, hon2⟩, hbw⟩; have HBW : Hid (Below wr.heap.size wr w') := hbw; have hrow' := HROW.out.below hbw; obtain ⟨y0, d0⟩ := hrow'.cell (j := k * 5) (by omega); obtain ⟨y1, d1⟩ := hrow'.cell (j := k * 5 + 1) (by omega); obtain ⟨y2, d2⟩ := hrow'.cell (j := k * 5 + 2) (by omega); obtain ⟨y3, d3⟩ := hrow'.cell (j := k * 5 + 3) (by omega); obtain ⟨y4, d5⟩ := hrow'.cell (j := k * 5 + 4) (by omega); have d4 := hrow'.frozen; clear hrow' hbw; have HON1 : Hid _ := hon1; have HON2 : Hid _ := hon2; have hf1 := hon1.out.form; have hf2 := hon2.out.form; obtain ⟨o1, n1, c1, rfl⟩ := hf1; obtain ⟨o2, n2, c2, rfl⟩ := hf2; clear hon1 hon2))
        have HFIN : Hid _ := finR hb HBW.out HROW.out HF.out hlt HR.out (Nat.le_refl _) HON1.out HON2.out
        go_roundw
        case rel => exact ⟨k + 1, by omega, by go_num, HFIN.out.1, HFIN.out.2.1, HFIN.out.2.2⟩
        case measure => simp [intOf]; omega
      · obtain rfl : k = n := by omega
        clear hrow
        go_wp2
        go_ret
        exact ⟨.slice (some ⟨w.heap.size, 0, none⟩) k k, rfl, HF.out.sl HN.out.symm (Nat.le_refl _), hb⟩
end Go.Proofs.Qxb6601693aDoor
