import Derived.Test.Qxb6601693aDoorG1
import Derived.Laws.Rows
namespace Go.Proofs.Qxb6601693aDoor
open Go.RowKit

set_option maxHeartbeats 400000 in
theorem places_wide (s : ByteArray) (w : World) (hs : s.size ≤ 1048576) :
    Calls Tryd.prog 37 #[.string s] w fun e w' => ∃ c : Nat, e = .returned (.int .i64 c) ∧ c ≤ s.size ∧ w' = w := by
  go_enter Tryd.func37, Tryd.ntmps37
  go_wp2
  go_loop [3, 4] (fun c i => ∃ (k n : Nat), k ≤ s.size ∧ n ≤ k ∧ i = .int .i64 k ∧ c = .int .i64 n) (fun _ i => s.size - (intOf i).toNat)
  case atStart => exact ⟨0, 0, Nat.zero_le _, Nat.zero_le _, rfl, rfl⟩
  case round =>
    obtain ⟨k, n, hk, hn, rfl, rfl⟩ := hrel
    by_cases hlt : k + 10 ≤ s.size
    · cases hq : ((s.extract k (k + 10)).toList == [36, 123, 97, 99, 99, 111, 117, 110, 116, 125])
      · go_wp2
        go_round
        case rel => exact ⟨k + 1, n, by omega, by omega, by go_num, rfl⟩
        case measure => simp [intOf]; omega
      · go_wp2
        go_round
        case rel => exact ⟨k + 10, n + 1, by omega, by omega, by go_num, by go_num⟩
        case measure => simp [intOf]; omega
    · go_wp2
      go_ret
      exact ⟨n, rfl, by omega, rfl⟩


/-- eight numbers -/
def StatsV (v : Value) : Prop := ∃ a0 a1 a2 a3 a4 a5 a6 a7 : Int, v = .agg #[.int .i64 a0, .int .i64 a1, .int .i64 a2, .int .i64 a3, .int .i64 a4, .int .i64 a5, .int .i64 a6, .int .i64 a7]
def StatsBool (w : World) (e : Ending) (w' : World) : Prop := ∃ (v : Value) (b : Bool), e = .returned (.tuple #[v, .bool b]) ∧ StatsV v ∧ Below w.heap.size w w'

theorem heap3 (w : World) (a b c : Obj) : (((w.alloc a).alloc b).alloc c).heap[w.heap.size + 1 + 1]? = some c := by
  have := heap_alloc_new ((w.alloc a).alloc b) c
  simpa using this
theorem below3 (w : World) (a b c : Obj) : Below w.heap.size w (((w.alloc a).alloc b).alloc c) := (((Below.refl _ w).alloc (Nat.le_refl _) a).alloc (by simp) b).alloc (by simp; omega) c
theorem Tryd.size69 : (Tryd.prog.info? 69).map (·.size) = some 8 := by kernel_rfl
theorem stats_ret {fn : Func} {p u : Tmp} (h : fn.results = #[.cell p 69, .tmp u]) {tmps : Array Value} {w w1 : World} {g : Nat} {b : Bool} {x0 x1 x2 x3 x4 x5 x6 x7 : Int} (hp : tmps.getD p undef = .pointer (some ⟨g, 0, none⟩)) (hu : tmps.getD u undef = .bool b)
    (hg : w1.heap[g]? = some (.cells #[.int .i64 x0, .int .i64 x1, .int .i64 x2, .int .i64 x3, .int .i64 x4, .int .i64 x5, .int .i64 x6, .int .i64 x7] 69)) (hb : Below w.heap.size w w1) : bodyPost Tryd.prog fn (StatsBool w) .ret ⟨tmps, []⟩ w1 := by
  refine bodyPost_ret (v := .tuple #[.agg #[.int .i64 x0, .int .i64 x1, .int .i64 x2, .int .i64 x3, .int .i64 x4, .int .i64 x5, .int .i64 x6, .int .i64 x7], .bool b]) ?_ rfl ⟨_, _, rfl, ⟨_, _, _, _, _, _, _, _, rfl⟩, hb⟩
  rw [results_cell_tmp h]
  simp only [hp, hu, asAddr]
  rw [show ((pure ⟨g, 0, none⟩ : Sem Addr)).run Tryd.prog w1 = .ok ⟨g, 0, none⟩ w1 from rfl]
  simp only [Result.andThen_ok]
  rw [run_loadVar_row w1 g 69 69 _ _ _ hg Tryd.underlying69 rfl Tryd.size69]
  rfl

set_option maxHeartbeats 2000000 in
set_option maxRecDepth 100000 in
theorem addRes_any (a0 a1 a2 a3 a4 a5 a6 a7 : Int) (ty cl na : ByteArray) (v : Value) (ss : List ByteArray) (w : World) (h : StrAt w v ss) :
    Calls Tryd.prog 59 #[.agg #[.int .i64 a0, .int .i64 a1, .int .i64 a2, .int .i64 a3, .int .i64 a4, .int .i64 a5, .int .i64 a6, .int .i64 a7], .agg #[.string ty, .string cl, .string na, v]] w (StatsBool w) := by
  obtain ⟨o, c, rfl, h1, h2⟩ := h
  have HS : Hid (StrAt w (.slice o ss.length c) ss) := ⟨o, c, rfl, h1, h2⟩
  clear h2
  obtain ⟨n, HN⟩ : ∃ n, Hid (ss.length = n) := ⟨_, rfl⟩
  rw [HN.out] at h1 HS ⊢
  have hsb := fun t wx (hx : Below w.heap.size w wx) => strsBytes_any _ ss t wx (HS.out.below hx)
  go_enter Tryd.func59, Tryd.ntmps59
  go_wp2_with (first
    | (go_at_call 58; refine (addLen_any _ _ _).mono ?_; rintro e w' ⟨u', b', rfl, hw'⟩; subst hw'; cases b')
    | (go_at_call 66; refine (hsb _ _ (by repeat' (first | exact Below.refl _ _ | refine Below.alloc ?_ (by simp <;> omega) _))).mono ?_; rintro e w' ⟨u', b', rfl, hw'⟩; subst hw'; cases b'))
  all_goals exact stats_ret (p := 4) (u := 5) Tryd.results59 rfl rfl (heap3 w _ _ _) (below3 w _ _ _)
end Go.Proofs.Qxb6601693aDoor
