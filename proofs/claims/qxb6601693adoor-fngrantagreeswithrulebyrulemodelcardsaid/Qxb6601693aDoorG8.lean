import Derived.Test.Qxb6601693aDoorG7
namespace Go.Proofs.Qxb6601693aDoor
open Go.RowKit

theorem stats_ret8 {fn : Func} {p u : Tmp} (h : fn.results = #[.cell p 69, .tmp u]) {tmps : Array Value} {w w1 : World} {g : Nat} {b : Bool} (hp : tmps.getD p undef = .pointer (some ⟨g, 0, none⟩)) (hu : tmps.getD u undef = .bool b) (hg : Cells8 w1 g) (hb : Below w.heap.size w w1) : bodyPost Tryd.prog fn (StatsBool w) .ret ⟨tmps, []⟩ w1 := by
  obtain ⟨x0, x1, x2, x3, x4, x5, x6, x7, hg⟩ := hg
  exact stats_ret h hp hu hg hb
theorem finA {w wr w' : World} (hb : Below w.heap.size w wr) (hbw : Below wr.heap.size wr w') (h8 : Cells8 wr (w.heap.size + 1)) (h0 : Cells8 wr w.heap.size) (y0 y1 y2 y3 y4 y5 y6 y7 : Int) :
    Cells8 (w'.alloc (.cells #[.int .i64 y0, .int .i64 y1, .int .i64 y2, .int .i64 y3, .int .i64 y4, .int .i64 y5, .int .i64 y6, .int .i64 y7] 69)) w'.heap.size ∧ Cells8 (w'.alloc (.cells #[.int .i64 y0, .int .i64 y1, .int .i64 y2, .int .i64 y3, .int .i64 y4, .int .i64 y5, .int .i64 y6, .int .i64 y7] 69)) (w.heap.size + 1) ∧ Cells8 (w'.alloc (.cells #[.int .i64 y0, .int .i64 y1, .int .i64 y2, .int .i64 y3, .int .i64 y4, .int .i64 y5, .int .i64 y6, .int .i64 y7] 69)) w.heap.size ∧ Below w.heap.size w (w'.alloc (.cells #[.int .i64 y0, .int .i64 y1, .int .i64 y2, .int .i64 y3, .int .i64 y4, .int .i64 y5, .int .i64 y6, .int .i64 y7] 69)) ∧ w.heap.size + 1 < w'.heap.size := by
  have hbw' := below_aft hb hb.size hbw
  have h8' := h8.below hbw
  have h0' := h0.below hbw
  have e := (Below.refl w'.heap.size w').alloc (Nat.le_refl _) (.cells #[.int .i64 y0, .int .i64 y1, .int .i64 y2, .int .i64 y3, .int .i64 y4, .int .i64 y5, .int .i64 y6, .int .i64 y7] 69)
  exact ⟨⟨_, _, _, _, _, _, _, _, heap_alloc_new _ _⟩, h8'.below e, h0'.below e, hbw'.alloc hbw'.size _, h8'.lt⟩
theorem finB {w wr w' : World} (hb : Below w.heap.size w wr) (hbw : Below wr.heap.size wr w') (h8 : Cells8 wr (w.heap.size + 1)) (h0 : Cells8 wr w.heap.size) (hn : Cells8 w' wr.heap.size) (y0 y1 y2 y3 y4 y5 y6 y7 : Int) :
    Cells8 (set8 w' wr.heap.size y0 y1 y2 y3 y4 y5 y6 y7) wr.heap.size ∧ Cells8 (set8 w' wr.heap.size y0 y1 y2 y3 y4 y5 y6 y7) (w.heap.size + 1) ∧ Cells8 (set8 w' wr.heap.size y0 y1 y2 y3 y4 y5 y6 y7) w.heap.size ∧ Below w.heap.size w (set8 w' wr.heap.size y0 y1 y2 y3 y4 y5 y6 y7) ∧ w.heap.size + 1 < wr.heap.size := by
  have h8l := h8.lt
  have h0l := h0.lt
  exact ⟨set8_same hn _ _ _ _ _ _ _ _, (h8.below hbw).congr (set8_other _ _ _ _ _ _ _ _ (by omega)), (h0.below hbw).congr (set8_other _ _ _ _ _ _ _ _ (by omega)), set8_below (below_aft hb hb.size hbw) hb.size _ _ _ _ _ _ _ _, h8l⟩

set_option maxHeartbeats 4000000 in
set_option maxRecDepth 100000 in
theorem stats_any (v0 v2 : Value) (rules : List RuleD) (acct : ByteArray) (asked : List ResD) (w : World) (h0 : RuleSl w v0 rules) (h2 : ResSl w v2 asked) (hok : AllOk rules acct asked) :
    Calls Tryd.prog 43 #[v0, .string acct, v2] w (StatsBool w) := by
  obtain ⟨o0, c0, rfl, g0, k0⟩ := h0
  obtain ⟨o2, c2, rfl, g2, k2⟩ := h2
  have HK0 : Hid (0 < rules.length → ∃ b f, o0 = some ⟨b, f, none⟩ ∧ ∀ i, i < rules.length → RuleAt w b (f + i * 5) (rules.getD i RuleD.none)) := k0
  have HK2 : Hid (0 < asked.length → ∃ b f, o2 = some ⟨b, f, none⟩ ∧ ∀ i, i < asked.length → ResAt w b (f + i * 4) (asked.getD i ResD.none)) := k2
  clear k0 k2
  obtain ⟨q1, q2, q3, q4, q5⟩ := hok
  have HQ2 : Hid (∀ i, i < rules.length → RuleOk (rules.getD i RuleD.none)) := q2
  clear q2 q5
  obtain ⟨n0, HN0⟩ : ∃ n, Hid (rules.length = n) := ⟨_, rfl⟩
  obtain ⟨n2, HN2⟩ : ∃ n, Hid (asked.length = n) := ⟨_, rfl⟩
  rw [HN0.out] at g0 HK0 HQ2 q1 ⊢
  rw [HN2.out] at g2 HK2 q4 ⊢
  by_cases hn0 : n0 ≤ 4096
  · by_cases hn2 : n2 ≤ 4096
    · go_enter Tryd.func43, Tryd.ntmps43
      go_wp2_with (first | (go_at_call 58; refine (addLen_any _ _ _).mono ?_; rintro e w' ⟨u', b', rfl, hw'⟩; subst hw'; cases b'))
      · exact stats_ret (p := 6) (u := 7) Tryd.results43 rfl rfl (heap2 w _ _) (below2 w _ _)
      · have hst : Cells8 ((w.alloc (.cells #[.int .i64 0, .int .i64 0, .int .i64 0, .int .i64 0, .int .i64 0, .int .i64 0, .int .i64 0, .int .i64 0] 69)).alloc (.cells #[.int .i64 u', .int .i64 0, .int .i64 0, .int .i64 0, .int .i64 0, .int .i64 0, .int .i64 0, .int .i64 0] 69)) (w.heap.size + 1) := ⟨_, _, _, _, _, _, _, _, heap2' w _ _⟩
        have hst0 : Cells8 ((w.alloc (.cells #[.int .i64 0, .int .i64 0, .int .i64 0, .int .i64 0, .int .i64 0, .int .i64 0, .int .i64 0, .int .i64 0] 69)).alloc (.cells #[.int .i64 u', .int .i64 0, .int .i64 0, .int .i64 0, .int .i64 0, .int .i64 0, .int .i64 0, .int .i64 0] 69)) w.heap.size := ⟨_, _, _, _, _, _, _, _, heap2 w _ _⟩
        have hbb := below2 w (.cells #[.int .i64 0, .int .i64 0, .int .i64 0, .int .i64 0, .int .i64 0, .int .i64 0, .int .i64 0, .int .i64 0] 69) (.cells #[.int .i64 u', .int .i64 0, .int .i64 0, .int .i64 0, .int .i64 0, .int .i64 0, .int .i64 0, .int .i64 0] 69)
        go_loopw [11] (fun i wr => ∃ k : Nat, k ≤ n2 ∧ i = .int .i64 k ∧ Cells8 wr (w.heap.size + 1) ∧ Cells8 wr w.heap.size ∧ Below w.heap.size w wr) (fun i _ => n2 - (intOf i).toNat)
        case atStart => exact ⟨0, Nat.zero_le _, rfl, hst, hst0, hbb⟩
        case round =>
          obtain ⟨k, hk, rfl, hs8, hs0, hb⟩ := hrel
          clear hst hst0 hbb
          have HS8 : Hid (Cells8 wr (w.heap.size + 1)) := hs8
          have HS0 : Hid (Cells8 wr w.heap.size) := hs0
          clear hs0
          obtain ⟨x0, x1, x2, x3, x4, x5, x6, x7, h8⟩ := hs8
          obtain ⟨⟨d0, d1, d2, d3, d4, d5, d6, d7⟩, d8⟩ := Cells8.facts h8
          by_cases hlt : k < n2
          · obtain ⟨b, f, rfl, hc⟩ := HK2.out (by omega)
            obtain ⟨e0, e1, e2, v3, e3, hs3⟩ := (hc k hlt).below hb
            obtain ⟨r, HR⟩ : ∃ r, Hid (asked.getD k ResD.none = r) := ⟨_, rfl⟩
            rw [HR.out] at e0 e1 e2 hs3
            obtain ⟨rty, rcl, rna, racts⟩ := r
            simp only [] at e0 e1 e2
            have HS3 : Hid (StrAt wr v3 racts) := hs3
            have hbl : b < wr.heap.size := World.block_lt_of_cell? _ _ e0
            have hbn : ¬ b = wr.heap.size := by omega
            have hol : w.heap.size + 1 < wr.heap.size := World.block_lt_of_cell? _ _ d0
            have hon : ¬ w.heap.size + 1 = wr.heap.size := by omega
            clear hc hs3
            go_wp2
            go_cut [12, 13] from 38 to 56 (fun p q wx => ∃ (B12 : Nat) (bb : Bool), p = .pointer (some ⟨B12, 0, none⟩) ∧ q = .bool bb ∧ Cells8 wx B12 ∧ Cells8 wx (w.heap.size + 1) ∧ Cells8 wx w.heap.size ∧ Below w.heap.size w wx ∧ w.heap.size + 1 < B12)
            case first =>
              go_region_with (first | (go_at_call 59; refine (addRes_any _ _ _ _ _ _ _ _ _ _ _ _ racts _ (HS3.out.below (by repeat' (first | exact Below.refl _ _ | refine Below.drew ?_ | refine Below.alloc ?_ (by simp) _)))).mono ?_; rintro e w' ⟨v, bb, rfl, ⟨y0, y1, y2, y3, y4, y5, y6, y7, rfl⟩, hb'⟩; have hbw : Below wr.heap.size wr w' := (below_aft (B := wr.heap.size) (w := wr) (by repeat' (first | exact Below.refl _ _ | refine Below.drew ?_ | refine Below.alloc ?_ (by simp) _)) (by simp) hb'); try (have hblk : w'.heap[wr.heap.size]? = some (.cells #[.int .i64 0, .int .i64 0, .int .i64 0, .int .i64 0, .int .i64 0, .int .i64 0, .int .i64 0, .int .i64 0] 69) := (hb'.block wr.heap.size (lt_alloc wr (.cells #[.int .i64 0, .int .i64 0, .int .i64 0, .int .i64 0, .int .i64 0, .int .i64 0, .int .i64 0, .int .i64 0] 69))).trans (heap_alloc_new wr (.cells #[.int .i64 0, .int .i64 0, .int .i64 0, .int .i64 0, .int .i64 0, .int .i64 0, .int .i64 0, .int .i64 0] 69)); obtain ⟨⟨z0, z1, z2, z3, z4, z5, z6, z7⟩, z8⟩ := Cells8.facts hblk)))
              all_goals (try go_wp2_with fail)
              all_goals go_meet
              all_goals first
                | (have hn8 : Cells8 w' wr.heap.size := ⟨_, _, _, _, _, _, _, _, hblk⟩; exact ⟨wr.heap.size, bb, rfl, rfl, finB hb hbw HS8.out HS0.out hn8 y0 y1 y2 y3 y4 y5 y6 y7⟩)
                | exact ⟨w'.heap.size, bb, rfl, rfl, finA hb hbw HS8.out HS0.out y0 y1 y2 y3 y4 y5 y6 y7⟩
            case rest =>
              obtain ⟨B12, bb, rfl, rfl, hc12, hc8, hc0, hbc, hltB⟩ := hcut
              have HC12 : Hid (Cells8 wc B12) := hc12
              have HC8 : Hid (Cells8 wc (w.heap.size + 1)) := hc8
              have HC0 : Hid (Cells8 wc w.heap.size) := hc0
              obtain ⟨p0, p1, p2, p3, p4, p5, p6, p7, hp⟩ := hc12
              obtain ⟨⟨m0, m1, m2, m3, m4, m5, m6, m7⟩, m8⟩ := Cells8.facts hp
              obtain ⟨r0, r1, r2, r3, r4, r5, r6, r7, hr⟩ := hc8
              obtain ⟨⟨l0, l1, l2, l3, l4, l5, l6, l7⟩, l8⟩ := Cells8.facts hr
              obtain ⟨s0, s1, s2, s3, s4, s5, s6, s7, hsx⟩ := hc0
              obtain ⟨⟨t0, t1, t2, t3, t4, t5, t6, t7⟩, t8⟩ := Cells8.facts hsx
              clear h8 d0 d1 d2 d3 d4 d5 d6 d7 d8 e0 e1 e2 e3
              cases bb
              · go_wp2
                exact stats_ret8 (p := 6) (u := 7) Tryd.results43 rfl rfl (set8_same HC0.out r0 r1 r2 r3 r4 r5 r6 r7) (set8_below hbc (Nat.le_refl _) r0 r1 r2 r3 r4 r5 r6 r7)
              · go_wp2
                go_roundw
                case rel =>
                  exact ⟨k + 1, by omega, by go_num, set8_same HC8.out p0 p1 p2 p3 p4 p5 p6 p7, HC0.out.congr (set8_other p0 p1 p2 p3 p4 p5 p6 p7 (by omega)), set8_below hbc (by omega) p0 p1 p2 p3 p4 p5 p6 p7⟩
                case measure => simp [intOf]; omega
          · obtain rfl : k = n2 := by omega
            clear h8 d0 d1 d2 d3 d4 d5 d6 d7 d8
            go_wp2
            go_loopw [14] (fun i wr => ∃ k : Nat, k ≤ n0 ∧ i = .int .i64 k ∧ Cells8 wr (w.heap.size + 1) ∧ Cells8 wr w.heap.size ∧ Below w.heap.size w wr) (fun i _ => n0 - (intOf i).toNat)
            case atStart => exact ⟨0, Nat.zero_le _, rfl, HS8.out, HS0.out, hb⟩
            case round =>
              clear HS8 HS0 hb
              obtain ⟨k, hk, rfl, hs8, hs0, hb⟩ := hrel
              have HS8 : Hid (Cells8 wr (w.heap.size + 1)) := hs8
              have HS0 : Hid (Cells8 wr w.heap.size) := hs0
              obtain ⟨x0, x1, x2, x3, x4, x5, x6, x7, h8⟩ := hs8
              obtain ⟨⟨d0, d1, d2, d3, d4, d5, d6, d7⟩, d8⟩ := Cells8.facts h8
              by_cases hlt : k < n0
              · clear hs0
                obtain ⟨b, f, rfl, hc⟩ := HK0.out (by omega)
                obtain ⟨e0, e1, ⟨v1, e2, hs1⟩, e3, v3, e4, hs3⟩ := (hc k hlt).below hb
                obtain ⟨_, _, hok1, _⟩ := HQ2.out k hlt
                obtain ⟨r, HR⟩ : ∃ r, Hid (rules.getD k RuleD.none = r) := ⟨_, rfl⟩
                rw [HR.out] at e0 e1 e3 hs1 hs3 hok1
                obtain ⟨rac, rty, rlits, rus, racts⟩ := r
                simp only [] at e0 e1 e3
                have HS1 : Hid (StrAt wr v1 rlits) := hs1
                have HS3 : Hid (StrAt wr v3 racts) := hs3
                have HOK : Hid (StrsOk rlits) := hok1
                have hbl : b < wr.heap.size := World.block_lt_of_cell? _ _ e0
                have hbn : ¬ b = wr.heap.size := by omega
                have hol : w.heap.size + 1 < wr.heap.size := World.block_lt_of_cell? _ _ d0
                have hon : ¬ w.heap.size + 1 = wr.heap.size := by omega
                clear hc hs1 hs3 hok1
                go_wp2
                go_cut [15, 16] from 57 to 76 (fun p q wx => ∃ (B12 : Nat) (bb : Bool), p = .pointer (some ⟨B12, 0, none⟩) ∧ q = .bool bb ∧ Cells8 wx B12 ∧ Cells8 wx (w.heap.size + 1) ∧ Cells8 wx w.heap.size ∧ Below w.heap.size w wx ∧ w.heap.size + 1 < B12)
                case first =>
                  go_region_with (first | (go_at_call 50; refine (addRule_any _ _ _ _ _ _ _ _ _ _ _ _ _ _ rlits racts _ (HS1.out.below (by repeat' (first | exact Below.refl _ _ | refine Below.drew ?_ | refine Below.alloc ?_ (by simp) _))) (HS3.out.below (by repeat' (first | exact Below.refl _ _ | refine Below.drew ?_ | refine Below.alloc ?_ (by simp) _))) HOK.out.2 HOK.out.1).mono ?_; rintro e w' ⟨v, bb, rfl, ⟨y0, y1, y2, y3, y4, y5, y6, y7, rfl⟩, hb'⟩; have hbw : Below wr.heap.size wr w' := (below_aft (B := wr.heap.size) (w := wr) (by repeat' (first | exact Below.refl _ _ | refine Below.drew ?_ | refine Below.alloc ?_ (by simp) _)) (by simp) hb'); try (have hblk : w'.heap[wr.heap.size]? = some (.cells #[.int .i64 0, .int .i64 0, .int .i64 0, .int .i64 0, .int .i64 0, .int .i64 0, .int .i64 0, .int .i64 0] 69) := (hb'.block wr.heap.size (lt_alloc wr (.cells #[.int .i64 0, .int .i64 0, .int .i64 0, .int .i64 0, .int .i64 0, .int .i64 0, .int .i64 0, .int .i64 0] 69))).trans (heap_alloc_new wr (.cells #[.int .i64 0, .int .i64 0, .int .i64 0, .int .i64 0, .int .i64 0, .int .i64 0, .int .i64 0, .int .i64 0] 69)); obtain ⟨⟨z0, z1, z2, z3, z4, z5, z6, z7⟩, z8⟩ := Cells8.facts hblk)))
                  all_goals (try go_wp2_with fail)
                  all_goals go_meet
                  all_goals first
                    | (have hn8 : Cells8 w' wr.heap.size := ⟨_, _, _, _, _, _, _, _, hblk⟩; exact ⟨wr.heap.size, bb, rfl, rfl, finB hb hbw HS8.out HS0.out hn8 y0 y1 y2 y3 y4 y5 y6 y7⟩)
                    | exact ⟨w'.heap.size, bb, rfl, rfl, finA hb hbw HS8.out HS0.out y0 y1 y2 y3 y4 y5 y6 y7⟩
                case rest =>
                  obtain ⟨B12, bb, rfl, rfl, hc12, hc8, hc0, hbc, hltB⟩ := hcut
                  have HC12 : Hid (Cells8 wc B12) := hc12
                  have HC8 : Hid (Cells8 wc (w.heap.size + 1)) := hc8
                  have HC0 : Hid (Cells8 wc w.heap.size) := hc0
                  obtain ⟨p0, p1, p2, p3, p4, p5, p6, p7, hp⟩ := hc12
                  obtain ⟨⟨m0, m1, m2, m3, m4, m5, m6, m7⟩, m8⟩ := Cells8.facts hp
                  obtain ⟨r0, r1, r2, r3, r4, r5, r6, r7, hr⟩ := hc8
                  obtain ⟨⟨l0, l1, l2, l3, l4, l5, l6, l7⟩, l8⟩ := Cells8.facts hr
                  obtain ⟨s0, s1, s2, s3, s4, s5, s6, s7, hsx⟩ := hc0
                  obtain ⟨⟨t0, t1, t2, t3, t4, t5, t6, t7⟩, t8⟩ := Cells8.facts hsx
                  clear h8 d0 d1 d2 d3 d4 d5 d6 d7 d8 e0 e1 e2 e3 e4
                  cases bb
                  · go_wp2
                    exact stats_ret8 (p := 6) (u := 7) Tryd.results43 rfl rfl (set8_same HC0.out r0 r1 r2 r3 r4 r5 r6 r7) (set8_below hbc (Nat.le_refl _) r0 r1 r2 r3 r4 r5 r6 r7)
                  · go_wp2
                    go_roundw
                    case rel =>
                      exact ⟨k + 1, by omega, by go_num, set8_same HC8.out p0 p1 p2 p3 p4 p5 p6 p7, HC0.out.congr (set8_other p0 p1 p2 p3 p4 p5 p6 p7 (by omega)), set8_below hbc (by omega) p0 p1 p2 p3 p4 p5 p6 p7⟩
                    case measure => simp [intOf]; omega
              · obtain rfl : k = n0 := by omega
                obtain ⟨s0, s1, s2, s3, s4, s5, s6, s7, hsx⟩ := hs0
                obtain ⟨⟨t0, t1, t2, t3, t4, t5, t6, t7⟩, t8⟩ := Cells8.facts hsx
                go_wp2
                exact stats_ret8 (p := 6) (u := 7) Tryd.results43 rfl rfl (set8_same HS0.out x0 x1 x2 x3 x4 x5 x6 x7) (set8_below hb (Nat.le_refl _) x0 x1 x2 x3 x4 x5 x6 x7)
    · go_enter Tryd.func43, Tryd.ntmps43
      go_wp2
      exact stats_ret (p := 6) (u := 7) Tryd.results43 rfl rfl (heap2 w _ _) (below2 w _ _)
  · go_enter Tryd.func43, Tryd.ntmps43
    go_wp2
    exact stats_ret (p := 6) (u := 7) Tryd.results43 rfl rfl (heap2 w _ _) (below2 w _ _)
end Go.Proofs.Qxb6601693aDoor
