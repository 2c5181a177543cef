import Derived.Test.Qxb6601693aDoorA1
import Derived.Deep.RegionHeld3
namespace Go.Proofs.Qxb6601693aDoor
open Go.RowKit

theorem getD_mem' {l : List ByteArray} {j : Nat} (h : j < l.length) : l.getD j ByteArray.empty ∈ l := by
  rw [List.getD_eq_getElem?_getD, List.getElem?_eq_getElem h]
  exact List.getElem_mem h
theorem hasB_hit {ss : List ByteArray} {x : ByteArray} {j : Nat} (h : j < ss.length) (e : ((ss.getD j ByteArray.empty).toList == x.toList) = true) : hasB ss x = true := by
  rw [list_eq_iff] at e
  rw [hasB_iff, ← of_decide_eq_true e]
  exact getD_mem' h
theorem hasB_miss {ss : List ByteArray} {x : ByteArray} (h : ∀ j, j < ss.length → ((ss.getD j ByteArray.empty).toList == x.toList) = false) : hasB ss x = false := by
  cases hb : hasB ss x
  · rfl
  · rw [hasB_iff] at hb
    obtain ⟨j, hj, e⟩ := List.mem_iff_getElem.1 hb
    have := h j hj
    rw [list_eq_iff, List.getD_eq_getElem?_getD, List.getElem?_eq_getElem hj] at this
    exact absurd e (of_decide_eq_false this)

set_option maxHeartbeats 1000000 in
/-- zzHas -/
theorem has_any (v : Value) (ss : List ByteArray) (x : ByteArray) (w : World) (h : StrAt w v ss) (hl : ss.length ≤ 1048576) :
    Calls Tryd.prog 36 #[v, .string x] w fun e w' => e = .returned (.bool (hasB ss x)) ∧ w' = w := by
  obtain ⟨o, c, rfl, h1, h2⟩ := h
  have HC : Hid (0 < ss.length → ∃ b f, o = some ⟨b, f, none⟩ ∧ ∀ i, i < ss.length → w.cell? ⟨b, f + i, none⟩ = some (.string (ss.getD i ByteArray.empty))) := h2
  clear h2
  obtain ⟨n, HN⟩ : ∃ n, Hid (ss.length = n) := ⟨_, rfl⟩
  rw [HN.out] at HC h1 hl ⊢
  go_enter Tryd.func36, Tryd.ntmps36
  go_wp2
  go_loop [5] (fun i => ∃ k : Nat, k ≤ n ∧ i = .int .i64 k ∧ ∀ j, j < k → ((ss.getD j ByteArray.empty).toList == x.toList) = false) (fun i => n - (intOf i).toNat)
  case atStart => exact ⟨0, Nat.zero_le _, rfl, fun j hj => absurd hj (Nat.not_lt_zero _)⟩
  case round =>
    obtain ⟨k, hk, rfl, hno⟩ := hrel
    have HNO : Hid (∀ j, j < k → ((ss.getD j ByteArray.empty).toList == x.toList) = false) := hno
    clear hno
    by_cases hlt : k < n
    · obtain ⟨b, f, rfl, hc⟩ := HC.out (by omega)
      have hcell := hc k hlt
      obtain ⟨y, HY⟩ : ∃ y, Hid (ss.getD k ByteArray.empty = y) := ⟨_, rfl⟩
      rw [HY.out] at hcell
      clear hc
      cases hq : (y.toList == x.toList)
      · go_wp2
        go_round
        case rel => exact ⟨k + 1, by omega, by go_num, fun j hj => by
          by_cases e : j = k
          · rw [e, HY.out]; exact hq
          · exact HNO.out j (by omega)⟩
        case measure => simp [intOf]; omega
      · go_wp2
        go_ret
        exact ⟨ret_bool (hasB_hit (j := k) (by rw [HN.out]; exact hlt) (by rw [HY.out]; exact hq)).symm, rfl⟩
    · obtain rfl : k = n := by omega
      go_wp2
      go_ret
      exact ⟨ret_bool (hasB_miss (fun j hj => HNO.out j (by rw [HN.out] at hj; exact hj))).symm, rfl⟩

theorem sameK_spell (a b : ResD) : sameK a b = (a.ty.toList == b.ty.toList && (a.cl.toList == b.cl.toList && a.na.toList == b.na.toList)) := by
  rw [list_eq_iff, list_eq_iff, list_eq_iff]
  rfl
set_option maxHeartbeats 1000000 in
/-- zzSameKey -/
theorem sameKey_any (r s : ResD) (v v' : Value) (w : World) :
    Calls Tryd.prog 26 #[.agg #[.string r.ty, .string r.cl, .string r.na, v], .agg #[.string s.ty, .string s.cl, .string s.na, v']] w fun e w' => e = .returned (.bool (sameK r s)) ∧ Below w.heap.size w w' := by
  rw [sameK_spell]
  obtain ⟨aty, acl, ana, aacts⟩ := r
  obtain ⟨bty, bcl, bna, bacts⟩ := s
  simp only []
  cases q0 : (aty.toList == bty.toList)
  · go_enter Tryd.func26, Tryd.ntmps26
    go_wp2
    go_ret
    exact ⟨rfl, below2 w _ _⟩
  · cases q1 : (acl.toList == bcl.toList)
    · go_enter Tryd.func26, Tryd.ntmps26
      go_wp2
      go_ret
      exact ⟨rfl, below2 w _ _⟩
    · go_enter Tryd.func26, Tryd.ntmps26
      go_wp2
      go_ret
      exact ⟨rfl, below2 w _ _⟩

set_option maxHeartbeats 1000000 in
/-- zzSameStrings, at equal ones -/
theorem same_any (v v' : Value) (ss : List ByteArray) (w : World) (h : StrAt w v ss) (h' : StrAt w v' ss) (hl : ss.length ≤ 4398046511104) :
    Calls Tryd.prog 29 #[v, v'] w fun e w' => e = .returned (.bool true) ∧ Below w.heap.size w w' := by
  obtain ⟨o, c, rfl, h1, h2⟩ := h
  obtain ⟨o', c', rfl, h1', h2'⟩ := h'
  have HC : Hid (0 < ss.length → ∃ b f, o = some ⟨b, f, none⟩ ∧ ∀ i, i < ss.length → w.cell? ⟨b, f + i, none⟩ = some (.string (ss.getD i ByteArray.empty))) := h2
  have HC' : Hid (0 < ss.length → ∃ b f, o' = some ⟨b, f, none⟩ ∧ ∀ i, i < ss.length → w.cell? ⟨b, f + i, none⟩ = some (.string (ss.getD i ByteArray.empty))) := h2'
  clear h2 h2'
  generalize ss.length = n at *
  go_enter Tryd.func29, Tryd.ntmps29
  go_wp2
  go_loopw [5] (fun i wr => ∃ k : Nat, k ≤ n ∧ i = .int .i64 k ∧ Below w.heap.size w wr) (fun i _ => n - (intOf i).toNat)
  case atStart => exact ⟨0, Nat.zero_le _, rfl, Below.refl _ _⟩
  case round =>
    obtain ⟨k, hk, rfl, hb⟩ := hrel
    by_cases hlt : k < n
    · obtain ⟨b, f, rfl, hc⟩ := HC.out (by omega)
      obtain ⟨b', f', rfl, hc'⟩ := HC'.out (by omega)
      have hcell := cell_blocks (hc k hlt) (hb.block b (World.block_lt_of_cell? _ _ (hc k hlt)))
      have hcell' := cell_blocks (hc' k hlt) (hb.block b' (World.block_lt_of_cell? _ _ (hc' k hlt)))
      obtain ⟨y, HY⟩ : ∃ y, Hid (ss.getD k ByteArray.empty = y) := ⟨_, rfl⟩
      rw [HY.out] at hcell hcell'
      have hk0 : (0 : Int) ≤ (k : Int) := Int.natCast_nonneg _
      have hk1 : (k : Int) < (n : Int) := by omega
      clear hc hc'
      go_wp2
      go_quiet (fail)
      go_wp2
      go_roundw
      case rel => exact ⟨k + 1, by omega, by go_num, below_drew hb nq⟩
      case measure => simp [intOf]; omega
    · obtain rfl : k = n := by omega
      go_wp2
      go_ret
      exact ⟨rfl, hb⟩

theorem keep8 {w w' : World} {B j i : Nat} {v0 v1 v2 v3 u0 u1 u2 u3 : Value} (hb : Below w.heap.size w w') (h : w.cell? ⟨B, j, none⟩ = some v0 ∧ w.cell? ⟨B, j + 1, none⟩ = some v1 ∧ w.cell? ⟨B, j + 2, none⟩ = some v2 ∧ w.cell? ⟨B, j + 3, none⟩ = some v3 ∧ w.cell? ⟨B, i, none⟩ = some u0 ∧ w.cell? ⟨B, i + 1, none⟩ = some u1 ∧ w.cell? ⟨B, i + 2, none⟩ = some u2 ∧ w.cell? ⟨B, i + 3, none⟩ = some u3) :
    w'.cell? ⟨B, j, none⟩ = some v0 ∧ w'.cell? ⟨B, j + 1, none⟩ = some v1 ∧ w'.cell? ⟨B, j + 2, none⟩ = some v2 ∧ w'.cell? ⟨B, j + 3, none⟩ = some v3 ∧ w'.cell? ⟨B, i, none⟩ = some u0 ∧ w'.cell? ⟨B, i + 1, none⟩ = some u1 ∧ w'.cell? ⟨B, i + 2, none⟩ = some u2 ∧ w'.cell? ⟨B, i + 3, none⟩ = some u3 := by
  obtain ⟨h0, h1, h2, h3, h4, h5, h6, h7⟩ := h
  have e := hb.block B (World.block_lt_of_cell? _ _ h0)
  exact ⟨cell_blocks h0 e, cell_blocks h1 e, cell_blocks h2 e, cell_blocks h3 e, cell_blocks h4 e, cell_blocks h5 e, cell_blocks h6 e, cell_blocks h7 e⟩
theorem seen_false {asl : List ResD} {i : Nat} (h : ∀ j, j < i → sameK (rd asl j) (rd asl i) = false) : seenR asl i = false := by
  cases hb : seenR asl i
  · rfl
  · obtain ⟨j, hj, e⟩ := (seenR_iff asl i).1 hb
    rw [h j hj] at e
    cases e

set_option maxHeartbeats 4000000 in
set_option maxRecDepth 100000 in
/-- zzSeenBefore -/
theorem seen_any (v : Value) (asl : List ResD) (i : Nat) (w : World) (h : ResSl w v asl) (hi : i < asl.length) (hl : asl.length ≤ 1048576) :
    Calls Tryd.prog 24 #[v, .int .i64 i] w fun e w' => e = .returned (.bool (seenR asl i)) ∧ Below w.heap.size w w' := by
  obtain ⟨o, c, rfl, h1, h2⟩ := h
  obtain ⟨b, f, rfl, hc⟩ := h2 (by omega)
  have HC : Hid (∀ i, i < asl.length → ResAt w b (f + i * 4) (asl.getD i ResD.none)) := hc
  clear h2 hc
  obtain ⟨n, HN⟩ : ∃ n, Hid (asl.length = n) := ⟨_, rfl⟩
  rw [HN.out] at HC h1 hl hi ⊢
  go_enter Tryd.func24, Tryd.ntmps24
  go_wp2
  go_loopw [5] (fun x wr => ∃ k : Nat, k ≤ i ∧ x = .int .i64 k ∧ (∀ j, j < k → sameK (rd asl j) (rd asl i) = false) ∧ Below w.heap.size w wr) (fun x _ => i - (intOf x).toNat)
  case atStart => exact ⟨0, Nat.zero_le _, rfl, fun j hj => absurd hj (Nat.not_lt_zero _), Below.refl _ _⟩
  case round =>
    obtain ⟨k, hk, rfl, hno, hb⟩ := hrel
    have HNO : Hid (∀ j, j < k → sameK (rd asl j) (rd asl i) = false) := hno
    clear hno
    by_cases hlt : k < i
    · obtain ⟨e0, e1, e2, v3, e3, _⟩ := (HC.out k (by omega)).below hb
      obtain ⟨d0, d1, d2, u3, d3, _⟩ := (HC.out i hi).below hb
      have hcon := fun wx => sameKey_any (asl.getD k ResD.none) (asl.getD i ResD.none) v3 u3 wx
      obtain ⟨sb, HEQ⟩ : ∃ sb, Hid (sameK (rd asl k) (rd asl i) = sb) := ⟨_, rfl⟩
      rw [show sameK (asl.getD k ResD.none) (asl.getD i ResD.none) = sb from HEQ.out] at hcon
      have HS : Hid (sameK (rd asl k) (rd asl i) = true → seenR asl i = true) := fun e => (seenR_iff asl i).2 ⟨k, hlt, e⟩
      obtain ⟨r, HR⟩ : ∃ r, Hid (asl.getD k ResD.none = r) := ⟨_, rfl⟩
      obtain ⟨s, HRS⟩ : ∃ r, Hid (asl.getD i ResD.none = r) := ⟨_, rfl⟩
      rw [HR.out] at e0 e1 e2
      rw [HRS.out] at d0 d1 d2
      rw [HR.out, HRS.out] at hcon
      obtain ⟨rty, rcl, rna, racts⟩ := r
      obtain ⟨sty, scl, sna, sacts⟩ := s
      simp only [] at e0 e1 e2 d0 d1 d2 hcon
      have hk0 : (0 : Int) ≤ (k : Int) := Int.natCast_nonneg _
      have hk1 : (k : Int) < (n : Int) := by omega
      have hi0 : (0 : Int) ≤ (i : Int) := Int.natCast_nonneg _
      have hi1 : (i : Int) < (n : Int) := by omega
      cases sb
      · go_wp2
        go_region_held3 (fun w' => w'.cell? ⟨b, f + k * 4, none⟩ = some (.string rty) ∧ w'.cell? ⟨b, f + k * 4 + 1, none⟩ = some (.string rcl) ∧ w'.cell? ⟨b, f + k * 4 + 2, none⟩ = some (.string rna) ∧ w'.cell? ⟨b, f + k * 4 + 3, none⟩ = some v3 ∧ w'.cell? ⟨b, f + i * 4, none⟩ = some (.string sty) ∧ w'.cell? ⟨b, f + i * 4 + 1, none⟩ = some (.string scl) ∧ w'.cell? ⟨b, f + i * 4 + 2, none⟩ = some (.string sna) ∧ w'.cell? ⟨b, f + i * 4 + 3, none⟩ = some u3) (first | with_reducible exact hS1 | go_keep)
          (first | (go_at_call 26; refine (hcon _).mono ?_; rintro e w' ⟨rfl, hb1⟩; have hS1 := keep8 hb1 (by assumption); have HB1 : Hid _ := hb1; clear hb1))
        go_wp2
        go_roundw
        case rel => exact ⟨k + 1, by omega, by go_num, fun j hj => by
          by_cases e : j = k
          · rw [e]; exact HEQ.out
          · exact HNO.out j (by omega), below_trans (below_drew hb 1) HB1.out⟩
        case measure => simp [intOf]; omega
      · go_wp2
        go_region_held3 (fun w' => w'.cell? ⟨b, f + k * 4, none⟩ = some (.string rty) ∧ w'.cell? ⟨b, f + k * 4 + 1, none⟩ = some (.string rcl) ∧ w'.cell? ⟨b, f + k * 4 + 2, none⟩ = some (.string rna) ∧ w'.cell? ⟨b, f + k * 4 + 3, none⟩ = some v3 ∧ w'.cell? ⟨b, f + i * 4, none⟩ = some (.string sty) ∧ w'.cell? ⟨b, f + i * 4 + 1, none⟩ = some (.string scl) ∧ w'.cell? ⟨b, f + i * 4 + 2, none⟩ = some (.string sna) ∧ w'.cell? ⟨b, f + i * 4 + 3, none⟩ = some u3) (first | with_reducible exact hS1 | go_keep)
          (first | (go_at_call 26; refine (hcon _).mono ?_; rintro e w' ⟨rfl, hb1⟩; have hS1 := keep8 hb1 (by assumption); have HB1 : Hid _ := hb1; clear hb1))
        go_wp2
        go_ret
        exact ⟨ret_bool (HS.out HEQ.out).symm, below_trans (below_drew hb 1) HB1.out⟩
    · obtain rfl : k = i := by omega
      go_wp2
      go_ret
      exact ⟨ret_bool (seen_false HNO.out).symm, hb⟩
end Go.Proofs.Qxb6601693aDoor
