import Derived.Test.Qxb6601693aDoorG10
namespace Go.Proofs.Qxb6601693aDoor
open Go.RowKit

theorem make_struct {P : Program} (t e : TypeId) (z : Value) (size bytes : Nat) (ht : P.underlying t = some (.slice e)) (hinfo : (P.info? e).map (fun i => (i.zero, i.size, i.bytes)) = some (some z, size, bytes))
    (n : Nat) (hb : bytes * n ≤ 281474976710656) (h63 : n ≤ 9223372036854775807) (w : World) :
    (Instr.makeSlice t (.int .i64 (n : Int)) (.int .i64 (n : Int))).run P w = .ok (.slice (some ⟨w.heap.size, 0, none⟩) n n) (w.alloc (.cells (madeCells z.cells (n * size)) e)) := by
  obtain ⟨i, hi, hzz⟩ := Option.map_eq_some_iff.1 hinfo
  simp only [Prod.mk.injEq] at hzz
  obtain ⟨hz, hs, hby⟩ := hzz
  have hb' : (i.bytes : Int) * (n : Int) ≤ 281474976710656 := by
    have h : ((i.bytes * n : Nat) : Int) ≤ 281474976710656 := by rw [hby]; omega
    rwa [Int.natCast_mul] at h
  have hr := run_make (P := P) w t e i z ht hi hz .i64 .i64 n n (by omega) (Int.le_refl _) hb' (by omega)
  simp only [Int.toNat_natCast, hs] at hr
  exact hr

/-- all blocks of w but B -/
def Off (B : Nat) (w : World) : Nat → Prop := fun g => g ≠ B ∧ g < w.heap.size
def ResOn (S : Nat → Prop) (w : World) (b f : Nat) (r : ResD) : Prop :=
  w.cell? ⟨b, f, none⟩ = some (.string r.ty) ∧ w.cell? ⟨b, f + 1, none⟩ = some (.string r.cl) ∧ w.cell? ⟨b, f + 2, none⟩ = some (.string r.na) ∧ ∃ v, w.cell? ⟨b, f + 3, none⟩ = some v ∧ On S (fun w => StrAt w v r.acts) w
theorem ResOn.at {S : Nat → Prop} {w : World} {b f : Nat} {r : ResD} (h : ResOn S w b f r) : ResAt w b f r := by
  obtain ⟨h0, h1, h2, v, h3, h4⟩ := h
  exact ⟨h0, h1, h2, v, h3, h4.out⟩
theorem ResOn.move {S S' : Nat → Prop} {w w' : World} {b f : Nat} {r : ResD} (h : ResOn S w b f r) (hc : ∀ j, f ≤ j → j < f + 4 → w'.cell? ⟨b, j, none⟩ = w.cell? ⟨b, j, none⟩) (hs : ∀ g, S g → S' g ∧ w'.heap[g]? = w.heap[g]?) : ResOn S' w' b f r := by
  obtain ⟨h0, h1, h2, v, h3, h4⟩ := h
  exact ⟨(hc _ (by omega) (by omega)).trans h0, (hc _ (by omega) (by omega)).trans h1, (hc _ (by omega) (by omega)).trans h2, v, (hc _ (by omega) (by omega)).trans h3, (h4.move fun g hg => (hs g hg).2).mono fun g hg => (hs g hg).1⟩
/-- the first k of rs lie in block B; their actions lie elsewhere -/
def FillRes (w : World) (B k : Nat) (rs : List ResD) : Prop := ∀ i, i < k → ResOn (Off B w) w B (i * 4) (rs.getD i ResD.none)
theorem FillRes.grow {w w' : World} {B k : Nat} {rs : List ResD} (h : FillRes w B k rs) (hB : B < w.heap.size) (hb : Below w.heap.size w w') : FillRes w' B k rs := fun i hi =>
  (h i hi).move (fun j _ _ => World.cell?_of_block (a := ⟨B, j, none⟩) (hb.block B hB)) fun g hg => ⟨⟨hg.1, Nat.lt_of_lt_of_le hg.2 hb.size⟩, hb.block g hg.2⟩
def set4 (w : World) (B j : Nat) (v0 v1 v2 v3 : Value) : World := (((w.setCell ⟨B, j, none⟩ v0).setCell ⟨B, j + 1, none⟩ v1).setCell ⟨B, j + 2, none⟩ v2).setCell ⟨B, j + 3, none⟩ v3
theorem set_cell_same {w : World} {B j m : Nat} {v : Value} (h : Row w B m) (hj : j < m) : (w.setCell ⟨B, j, none⟩ v).cell? ⟨B, j, none⟩ = some v := by
  obtain ⟨x, hx⟩ := h.cell hj
  exact World.cell?_setCell_same _ _ _ hx
theorem set_cell_ne {w : World} {B j i : Nat} {v : Value} (h : i ≠ j) : (w.setCell ⟨B, j, none⟩ v).cell? ⟨B, i, none⟩ = w.cell? ⟨B, i, none⟩ :=
  World.cell?_setCell_other _ _ _ _ (by intro e; cases e; exact h rfl)
theorem set4_row {w : World} {B m : Nat} (h : Row w B m) (j : Nat) (v0 v1 v2 v3 : Value) : Row (set4 w B j v0 v1 v2 v3) B m := (((h.set j v0).set (j + 1) v1).set (j + 2) v2).set (j + 3) v3
theorem set4_size (w : World) (B j : Nat) (v0 v1 v2 v3 : Value) : (set4 w B j v0 v1 v2 v3).heap.size = w.heap.size := by unfold set4; simp
theorem set4_heap {w : World} {B j : Nat} {v0 v1 v2 v3 : Value} {C : Nat} (h : C ≠ B) : (set4 w B j v0 v1 v2 v3).heap[C]? = w.heap[C]? := by
  unfold set4
  rw [set_other h, set_other h, set_other h, set_other h]
theorem set4_out {w : World} {B j i : Nat} {v0 v1 v2 v3 : Value} (h : i < j ∨ j + 4 ≤ i) : (set4 w B j v0 v1 v2 v3).cell? ⟨B, i, none⟩ = w.cell? ⟨B, i, none⟩ := by
  unfold set4
  rw [set_cell_ne (by omega), set_cell_ne (by omega), set_cell_ne (by omega), set_cell_ne (by omega)]
theorem set4_in {w : World} {B j m : Nat} {v0 v1 v2 v3 : Value} (h : Row w B m) (hj : j + 4 ≤ m) :
    (set4 w B j v0 v1 v2 v3).cell? ⟨B, j, none⟩ = some v0 ∧ (set4 w B j v0 v1 v2 v3).cell? ⟨B, j + 1, none⟩ = some v1 ∧ (set4 w B j v0 v1 v2 v3).cell? ⟨B, j + 2, none⟩ = some v2 ∧ (set4 w B j v0 v1 v2 v3).cell? ⟨B, j + 3, none⟩ = some v3 := by
  unfold set4
  have h1 := h.set j v0
  have h2 := h1.set (j + 1) v1
  have h3 := h2.set (j + 2) v2
  refine ⟨?_, ?_, ?_, ?_⟩
  · rw [set_cell_ne (by omega), set_cell_ne (by omega), set_cell_ne (by omega)]
    exact set_cell_same h (by omega)
  · rw [set_cell_ne (by omega), set_cell_ne (by omega)]
    exact set_cell_same h1 (by omega)
  · rw [set_cell_ne (by omega)]
    exact set_cell_same h2 (by omega)
  · exact set_cell_same h3 (by omega)
theorem set4_below {w w' : World} {A B : Nat} (h : Below A w w') (hB : A ≤ B) (j : Nat) (v0 v1 v2 v3 : Value) : Below A w (set4 w' B j v0 v1 v2 v3) := by
  unfold set4
  exact (((h.setCell hB _).setCell hB _).setCell hB _).setCell hB _
theorem FillRes.set {w : World} {B k m : Nat} {rs : List ResD} (h : FillRes w B k rs) (hr : Row w B m) (hm : k * 4 + 4 ≤ m) {ty cl na : ByteArray} {acts : List ByteArray} {v : Value} (e : rs.getD k ResD.none = ⟨ty, cl, na, acts⟩) (hv : On (Off B w) (fun w => StrAt w v acts) w) :
    FillRes (set4 w B (k * 4) (.string ty) (.string cl) (.string na) v) B (k + 1) rs := by
  intro i hi
  have hoff : ∀ g, Off B w g → Off B (set4 w B (k * 4) (.string ty) (.string cl) (.string na) v) g ∧ (set4 w B (k * 4) (.string ty) (.string cl) (.string na) v).heap[g]? = w.heap[g]? := fun g hg => ⟨⟨hg.1, by rw [set4_size]; exact hg.2⟩, set4_heap hg.1⟩
  by_cases ei : i = k
  · subst ei
    obtain ⟨c0, c1, c2, c3⟩ := set4_in (v0 := .string ty) (v1 := .string cl) (v2 := .string na) (v3 := v) hr hm
    rw [e]
    exact ⟨c0, c1, c2, v, c3, (hv.move fun g hg => (hoff g hg).2).mono fun g hg => (hoff g hg).1⟩
  · exact (h i (by omega)).move (fun j h1 h2 => set4_out (by omega)) hoff
theorem FillRes.sl {w : World} {B n c : Nat} {rs : List ResD} (h : FillRes w B n rs) (hn : n = rs.length) (hc : n ≤ c) : ResSl w (.slice (some ⟨B, 0, none⟩) n c) rs := by
  subst hn
  exact ⟨_, _, rfl, hc, fun _ => ⟨B, 0, rfl, fun i hi => by rw [Nat.zero_add]; exact (h i hi).at⟩⟩

def RuleOn (S : Nat → Prop) (w : World) (b f : Nat) (r : RuleD) : Prop :=
  w.cell? ⟨b, f, none⟩ = some (.string r.ac) ∧ w.cell? ⟨b, f + 1, none⟩ = some (.string r.ty) ∧ (∃ v, w.cell? ⟨b, f + 2, none⟩ = some v ∧ On S (fun w => StrAt w v r.lits) w) ∧ w.cell? ⟨b, f + 3, none⟩ = some (.bool r.us) ∧ ∃ v, w.cell? ⟨b, f + 4, none⟩ = some v ∧ On S (fun w => StrAt w v r.acts) w
theorem RuleOn.at {S : Nat → Prop} {w : World} {b f : Nat} {r : RuleD} (h : RuleOn S w b f r) : RuleAt w b f r := by
  obtain ⟨h0, h1, ⟨v, h2, g2⟩, h3, v', h4, g4⟩ := h
  exact ⟨h0, h1, ⟨v, h2, g2.out⟩, h3, v', h4, g4.out⟩
theorem RuleOn.move {S S' : Nat → Prop} {w w' : World} {b f : Nat} {r : RuleD} (h : RuleOn S w b f r) (hc : ∀ j, f ≤ j → j < f + 5 → w'.cell? ⟨b, j, none⟩ = w.cell? ⟨b, j, none⟩) (hs : ∀ g, S g → S' g ∧ w'.heap[g]? = w.heap[g]?) : RuleOn S' w' b f r := by
  obtain ⟨h0, h1, ⟨v, h2, g2⟩, h3, v', h4, g4⟩ := h
  exact ⟨(hc _ (by omega) (by omega)).trans h0, (hc _ (by omega) (by omega)).trans h1, ⟨v, (hc _ (by omega) (by omega)).trans h2, (g2.move fun g hg => (hs g hg).2).mono fun g hg => (hs g hg).1⟩, (hc _ (by omega) (by omega)).trans h3, v', (hc _ (by omega) (by omega)).trans h4, (g4.move fun g hg => (hs g hg).2).mono fun g hg => (hs g hg).1⟩
def FillRule (w : World) (B k : Nat) (rs : List RuleD) : Prop := ∀ i, i < k → RuleOn (Off B w) w B (i * 5) (rs.getD i RuleD.none)
theorem FillRule.grow {w w' : World} {B k : Nat} {rs : List RuleD} (h : FillRule w B k rs) (hB : B < w.heap.size) (hb : Below w.heap.size w w') : FillRule w' B k rs := fun i hi =>
  (h i hi).move (fun j _ _ => World.cell?_of_block (a := ⟨B, j, none⟩) (hb.block B hB)) fun g hg => ⟨⟨hg.1, Nat.lt_of_lt_of_le hg.2 hb.size⟩, hb.block g hg.2⟩
def set5 (w : World) (B j : Nat) (v0 v1 v2 v3 v4 : Value) : World := (set4 w B j v0 v1 v2 v3).setCell ⟨B, j + 4, none⟩ v4
theorem set5_row {w : World} {B m : Nat} (h : Row w B m) (j : Nat) (v0 v1 v2 v3 v4 : Value) : Row (set5 w B j v0 v1 v2 v3 v4) B m := (set4_row h j v0 v1 v2 v3).set (j + 4) v4
theorem set5_size (w : World) (B j : Nat) (v0 v1 v2 v3 v4 : Value) : (set5 w B j v0 v1 v2 v3 v4).heap.size = w.heap.size := by unfold set5 set4; simp
theorem set5_heap {w : World} {B j : Nat} {v0 v1 v2 v3 v4 : Value} {C : Nat} (h : C ≠ B) : (set5 w B j v0 v1 v2 v3 v4).heap[C]? = w.heap[C]? := by
  unfold set5
  rw [set_other h, set4_heap h]
theorem set5_out {w : World} {B j i : Nat} {v0 v1 v2 v3 v4 : Value} (h : i < j ∨ j + 5 ≤ i) : (set5 w B j v0 v1 v2 v3 v4).cell? ⟨B, i, none⟩ = w.cell? ⟨B, i, none⟩ := by
  unfold set5
  rw [set_cell_ne (by omega), set4_out (by omega)]
theorem set5_in {w : World} {B j m : Nat} {v0 v1 v2 v3 v4 : Value} (h : Row w B m) (hj : j + 5 ≤ m) :
    (set5 w B j v0 v1 v2 v3 v4).cell? ⟨B, j, none⟩ = some v0 ∧ (set5 w B j v0 v1 v2 v3 v4).cell? ⟨B, j + 1, none⟩ = some v1 ∧ (set5 w B j v0 v1 v2 v3 v4).cell? ⟨B, j + 2, none⟩ = some v2 ∧ (set5 w B j v0 v1 v2 v3 v4).cell? ⟨B, j + 3, none⟩ = some v3 ∧ (set5 w B j v0 v1 v2 v3 v4).cell? ⟨B, j + 4, none⟩ = some v4 := by
  obtain ⟨c0, c1, c2, c3⟩ := set4_in (v0 := v0) (v1 := v1) (v2 := v2) (v3 := v3) h (by omega : j + 4 ≤ m)
  unfold set5
  refine ⟨?_, ?_, ?_, ?_, set_cell_same (set4_row h j v0 v1 v2 v3) (by omega)⟩
  · rw [set_cell_ne (by omega)]; exact c0
  · rw [set_cell_ne (by omega)]; exact c1
  · rw [set_cell_ne (by omega)]; exact c2
  · rw [set_cell_ne (by omega)]; exact c3
theorem set5_below {w w' : World} {A B : Nat} (h : Below A w w') (hB : A ≤ B) (j : Nat) (v0 v1 v2 v3 v4 : Value) : Below A w (set5 w' B j v0 v1 v2 v3 v4) := by
  unfold set5
  exact (set4_below h hB j v0 v1 v2 v3).setCell hB _
theorem FillRule.set {w : World} {B k m : Nat} {rs : List RuleD} (h : FillRule w B k rs) (hr : Row w B m) (hm : k * 5 + 5 ≤ m) {ac ty : ByteArray} {lits : List ByteArray} {us : Bool} {acts : List ByteArray} {v v' : Value} (e : rs.getD k RuleD.none = ⟨ac, ty, lits, us, acts⟩) (hv : On (Off B w) (fun w => StrAt w v lits) w) (hv' : On (Off B w) (fun w => StrAt w v' acts) w) :
    FillRule (set5 w B (k * 5) (.string ac) (.string ty) v (.bool us) v') B (k + 1) rs := by
  intro i hi
  have hoff : ∀ g, Off B w g → Off B (set5 w B (k * 5) (.string ac) (.string ty) v (.bool us) v') g ∧ (set5 w B (k * 5) (.string ac) (.string ty) v (.bool us) v').heap[g]? = w.heap[g]? := fun g hg => ⟨⟨hg.1, by rw [set5_size]; exact hg.2⟩, set5_heap hg.1⟩
  by_cases ei : i = k
  · subst ei
    obtain ⟨c0, c1, c2, c3, c4⟩ := set5_in (v0 := .string ac) (v1 := .string ty) (v2 := v) (v3 := .bool us) (v4 := v') hr hm
    rw [e]
    exact ⟨c0, c1, ⟨v, c2, (hv.move fun g hg => (hoff g hg).2).mono fun g hg => (hoff g hg).1⟩, c3, v', c4, (hv'.move fun g hg => (hoff g hg).2).mono fun g hg => (hoff g hg).1⟩
  · exact (h i (by omega)).move (fun j h1 h2 => set5_out (by omega)) hoff
theorem FillRule.sl {w : World} {B n c : Nat} {rs : List RuleD} (h : FillRule w B n rs) (hn : n = rs.length) (hc : n ≤ c) : RuleSl w (.slice (some ⟨B, 0, none⟩) n c) rs := by
  subst hn
  exact ⟨_, _, rfl, hc, fun _ => ⟨B, 0, rfl, fun i hi => by rw [Nat.zero_add]; exact (h i hi).at⟩⟩

theorem Tryd.info56 : (Tryd.prog.info? 56).map (fun i => (i.zero, i.size, i.bytes)) = some (some (.agg #[.string ByteArray.empty, .string ByteArray.empty, .string ByteArray.empty, .slice none 0 0]), 4, 72) := by kernel_rfl
theorem Tryd.info47 : (Tryd.prog.info? 47).map (fun i => (i.zero, i.size, i.bytes)) = some (some (.agg #[.string ByteArray.empty, .string ByteArray.empty, .string ByteArray.empty, .slice none 0 0]), 4, 72) := by kernel_rfl
theorem Tryd.info49 : (Tryd.prog.info? 49).map (fun i => (i.zero, i.size, i.bytes)) = some (some (.agg #[.string ByteArray.empty, .string ByteArray.empty, .slice none 0 0, .bool false, .slice none 0 0]), 5, 88) := by kernel_rfl
theorem Tryd.info51 : (Tryd.prog.info? 51).map (fun i => (i.zero, i.size, i.bytes)) = some (some (.agg #[.string ByteArray.empty, .string ByteArray.empty, .slice none 0 0, .bool false, .slice none 0 0]), 5, 88) := by kernel_rfl
end Go.Proofs.Qxb6601693aDoor
