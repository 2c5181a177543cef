import Derived.Test.Qxb6601693aDoorM1
import Derived.Test.Qxb6601693aDoorG13
import Derived.Test.Qxb6601693aDoorP3
namespace Go.Proofs.Qxb6601693aDoor
open Go.RowKit

/-- what Match answers -/
def matchB (acct : ByteArray) (r : RuleD) (na : ByteArray) : Bool := matchL na.data.toList (segsL (expL r.us acct r.lits))
theorem list_eq_iff (a b : ByteArray) : (a.toList == b.toList) = decide (a = b) := by
  have e : a = b ↔ a.toList = b.toList := by
    rw [Lib.toList_data, Lib.toList_data]
    constructor
    · rintro rfl; rfl
    · intro h
      cases a; cases b
      simp only [ByteArray.mk.injEq]
      exact Array.toList_inj.1 h
  by_cases h : a = b
  · rw [decide_eq_true h, h]; simp
  · rw [decide_eq_false h]
    exact beq_eq_false_iff_ne.2 fun h' => h (e.2 h')

set_option maxHeartbeats 1000000 in
theorem key_any (ty cl na : ByteArray) (v : Value) (w : World) :
    Calls Tryd.prog 60 #[.agg #[.string ty, .string cl, .string na, v]] w fun e w' => e = .returned (.agg #[.string ty, .string cl, .string na]) ∧ Below w.heap.size w w' := by
  go_enter Tryd.func60, Tryd.ntmps60
  go_wp2
  refine bodyPost_ret (v := .agg #[.string ty, .string cl, .string na]) (by simp [results, Tryd.results60, go_sem]) rfl ?_
  exact ⟨rfl, below2 w _ _⟩

set_option maxHeartbeats 1000000 in
theorem covers_any (ac ty : ByteArray) (v1 v2 : Value) (us : Bool) (acct : ByteArray) (w : World) :
    Calls Tryd.prog 62 #[.agg #[.string ac, .string ty, v1, .bool us, v2], .string acct] w fun e w' => e = .returned (.bool (coversB ac acct)) ∧ Below w.heap.size w w' := by
  have hb0 : Below w.heap.size w (w.alloc (.cells #[.string ac, .string ty, v1, .bool us, v2] 51)) := (Below.refl _ w).alloc (Nat.le_refl _) _
  unfold coversB
  cases q0 : ac.toList.isEmpty
  · cases q1 : (ac.toList == [42])
    · go_enter Tryd.func62, Tryd.ntmps62
      go_wp2
      go_ret
      exact ⟨rfl, hb0⟩
    · go_enter Tryd.func62, Tryd.ntmps62
      go_wp2
      go_ret
      exact ⟨rfl, hb0⟩
  · go_enter Tryd.func62, Tryd.ntmps62
    go_wp2
    go_ret
    exact ⟨rfl, hb0⟩
/-- zzCovers -/
theorem zzCovers_any (ac acct : ByteArray) (w : World) :
    Calls Tryd.prog 25 #[.string ac, .string acct] w fun e w' => e = .returned (.bool (coversB ac acct)) ∧ w' = w := by
  unfold coversB
  cases q0 : ac.toList.isEmpty
  · cases q1 : (ac.toList == [42])
    · go_enter Tryd.func25, Tryd.ntmps25
      go_wp2
      go_ret
      exact ⟨rfl, rfl⟩
    · go_enter Tryd.func25, Tryd.ntmps25
      go_wp2
      go_ret
      exact ⟨rfl, rfl⟩
  · go_enter Tryd.func25, Tryd.ntmps25
    go_wp2
    go_ret
    exact ⟨rfl, rfl⟩

set_option maxHeartbeats 2000000 in
set_option maxRecDepth 100000 in
/-- (Rule).appliesTo -/
theorem applies_any (ac ty : ByteArray) (v1 v2 : Value) (us : Bool) (lits acts : List ByteArray) (acct : ByteArray) (ety ecl ena : ByteArray) (v3 : Value) (eacts : List ByteArray) (w : World) (hsh : w.ShapedOpen Tryd.prog) (h1 : StrAt w v1 lits) (hl : StrsOk lits) (ha : acct.size ≤ 1048576) (hn : ena.size ≤ 1048576) :
    Calls Tryd.prog 46 #[.agg #[.string ac, .string ty, v1, .bool us, v2], .string acct, .agg #[.string ety, .string ecl, .string ena, v3]] w fun e w' => e = .returned (.bool (applB (matchB acct) acct ⟨ac, ty, lits, us, acts⟩ ⟨ety, ecl, ena, eacts⟩)) ∧ Below w.heap.size w w' := by
  have hb0 : Below w.heap.size w ((w.alloc (.cells #[.string ac, .string ty, v1, .bool us, v2] 51)).alloc (.cells #[.string ety, .string ecl, .string ena, v3] 56)) := below2 w _ _
  have hblk0 := heap2 w (.cells #[.string ac, .string ty, v1, .bool us, v2] 51) (.cells #[.string ety, .string ecl, .string ena, v3] 56)
  have hblk1 := heap2' w (.cells #[.string ac, .string ty, v1, .bool us, v2] 51) (.cells #[.string ety, .string ecl, .string ena, v3] 56)
  have HC : Hid (∀ wx, Calls Tryd.prog 62 #[.agg #[.string ac, .string ty, v1, .bool us, v2], .string acct] wx fun e w' => e = .returned (.bool (coversB ac acct)) ∧ Below wx.heap.size wx w') := fun wx => covers_any ac ty v1 v2 us acct wx
  have HM : Hid (∀ wx, Below w.heap.size w wx → Calls Tryd.prog 13 #[.agg #[v1, .bool us], .string acct, .string ena] wx fun e w' => e = .returned (.bool (matchB acct ⟨ac, ty, lits, us, acts⟩ ena)) ∧ Below wx.heap.size wx w') := fun wx hb => match_wide acct ena v1 lits us wx (shaped_below hsh hb) (h1.below hb) hl ha hn
  obtain ⟨o1, n1, c1, rfl⟩ := h1.form
  clear h1 hl hsh
  show Calls Tryd.prog 46 _ w fun e w' => e = .returned (.bool (coversB ac acct && (ty.toList == ety.toList && matchB acct ⟨ac, ty, lits, us, acts⟩ ena))) ∧ Below w.heap.size w w'
  generalize matchB acct ⟨ac, ty, lits, us, acts⟩ ena = mb at *
  have HB0 : Hid _ := hb0
  have HK0 : Hid _ := hblk0
  have HK1 : Hid _ := hblk1
  clear hb0 hblk0 hblk1
  cases q0 : coversB ac acct
  · rw [q0] at HC
    go_enter Tryd.func46, Tryd.ntmps46
    go_wp2_with (first | (go_at_call 62; refine (HC.out _).mono ?_; rintro e w1 ⟨rfl, hb1⟩))
    go_ret
    exact ⟨rfl, below_trans HB0.out hb1⟩
  · rw [q0] at HC
    cases q1 : (ty.toList == ety.toList)
    · go_enter Tryd.func46, Tryd.ntmps46
      go_wp2_with (first | (go_at_call 62; refine (HC.out _).mono ?_; rintro e w1 ⟨rfl, hb1⟩; obtain ⟨⟨z0, z1, z2, z3, z4⟩, z5⟩ := block5 ((hb1.block _ (Row.lt ⟨_, _, HK0.out, rfl⟩)).trans HK0.out); obtain ⟨⟨y0, y1, y2, y3⟩, y5⟩ := block4 ((hb1.block _ (Row.lt ⟨_, _, HK1.out, rfl⟩)).trans HK1.out)))
      go_ret
      exact ⟨rfl, below_trans HB0.out hb1⟩
    · go_enter Tryd.func46, Tryd.ntmps46
      go_wp2_with (first | (go_at_call 62; refine (HC.out _).mono ?_; rintro e w1 ⟨rfl, hb1⟩; have HB1 : Hid _ := below_trans HB0.out hb1; obtain ⟨⟨z0, z1, z2, z3, z4⟩, z5⟩ := block5 ((hb1.block _ (Row.lt ⟨_, _, HK0.out, rfl⟩)).trans HK0.out); obtain ⟨⟨y0, y1, y2, y3⟩, y5⟩ := block4 ((hb1.block _ (Row.lt ⟨_, _, HK1.out, rfl⟩)).trans HK1.out)) | (go_at_call 13; refine (HM.out _ HB1.out).mono ?_; rintro e w2 ⟨rfl, hb2⟩))
      go_ret
      exact ⟨rfl, below_trans HB1.out hb2⟩
end Go.Proofs.Qxb6601693aDoor
