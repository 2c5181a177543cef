import Derived.Test.Qxb6601693aDoorD3
namespace Go.Proofs.Qxb6601693aDoor
open Go.RowKit

set_option maxHeartbeats 8000000 in
set_option maxRecDepth 100000 in
/-- (Rules).Grant -/
theorem grant_any (vr va : Value) (rules : List RuleD) (acct : ByteArray) (asl : List ResD) (w : World) (hsh : w.ShapedOpen Tryd.prog) (hr : RuleSl w vr rules) (ha : ResSl w va asl) (hok : AllOk rules acct asl) :
    Calls Tryd.prog 22 #[vr, .string acct, va] w fun e w' => ∃ a n c, e = .returned (.slice (some a) n c) ∧ ResSl w' (.slice (some a) n c) (grantL (matchB acct) acct rules asl) ∧ Below w.heap.size w w' := by
  obtain ⟨q1, q2, q3, q4, q5⟩ := hok
  obtain ⟨o0, c0, rfl, g0, k0⟩ := hr
  have HR0 : Hid (0 < rules.length → ∃ b f, o0 = some ⟨b, f, none⟩ ∧ ∀ i, i < rules.length → RuleAt w b (f + i * 5) (rules.getD i RuleD.none)) := k0
  have HSH : Hid (w.ShapedOpen Tryd.prog) := hsh
  have HQ2 : Hid (∀ i, i < rules.length → RuleOk (rules.getD i RuleD.none)) := q2
  have HQ5 : Hid (∀ i, i < asl.length → ResOk (rd asl i)) := q5
  have HMC : Hid (∀ wx, Below w.heap.size w wx → Calls Tryd.prog 45 #[va] wx fun e w' => ∃ v', e = .returned v' ∧ On (fun g => wx.heap.size ≤ g ∧ g < w'.heap.size) (fun wx => ResSl wx v' (mergeL asl asl.length)) w' ∧ Below wx.heap.size wx w') := fun wx hb => mergeRes_any va asl wx (ha.below hb) q4 q5
  have hm1 : (mergeL asl asl.length).length ≤ asl.length := merge_len asl _
  have HMN : Hid (∀ i, i < (mergeL asl asl.length).length → (rd (mergeL asl asl.length) i).na.size ≤ 1048576 ∧ (rd (mergeL asl asl.length) i).acts.length ≤ 1099511627776) := fun i hi => by
    obtain ⟨j, hj, _, _, e⟩ := merge_key asl asl.length i (Nat.le_refl _) hi
    have h5 := merge_acts asl (fun m hm => (q5 m hm).2.2.2.1) asl.length (Nat.le_refl _) i hi
    have h6 : asl.length * 1048576 ≤ 1048576 * 1048576 := Nat.mul_le_mul_right _ q4
    exact ⟨by rw [e]; exact (q5 j hj).2.2.1, by omega⟩
  have HGL : Hid (grantL (matchB acct) acct rules asl = (mergeL asl asl.length).filterMap (grant1 (matchB acct) acct rules)) := rfl
  obtain ⟨M, HM⟩ : ∃ M, Hid (mergeL asl asl.length = M) := ⟨_, rfl⟩
  rw [HM.out] at HMC hm1 HMN HGL
  rw [HGL.out, ← grTo_all]
  clear ha k0 hsh q2 q5
  obtain ⟨m, HML⟩ : ∃ m, Hid (M.length = m) := ⟨_, rfl⟩
  obtain ⟨nr, HNR⟩ : ∃ n, Hid (rules.length = n) := ⟨_, rfl⟩
  rw [HML.out] at hm1 HMN ⊢
  rw [HNR.out] at q1 g0 HR0 HQ2 ⊢
  have HB0 : Hid (Below w.heap.size w (w.alloc (.cells #[] 56))) := (Below.refl _ w).alloc (Nat.le_refl _) _
  go_enter Tryd.func22, Tryd.ntmps22
  go_wp2_with (first | (go_at_call 45; refine (HMC.out _ HB0.out).mono ?_; rintro e w1 ⟨vM, rfl, honM, hb1⟩; have hfm := honM.out; obtain ⟨oM, cM, rfl, hcM, _⟩ := hfm; rw [HML.out] at hcM honM ⊢; have HON : Hid _ := honM; have HB1 : Hid _ := hb1; clear honM hb1))
  have hs0 : (w.alloc (.cells #[] 56)).heap.size = w.heap.size + 1 := World.size_alloc _ _
  have h1s : w.heap.size + 1 ≤ w1.heap.size := by have := HB1.out.size; omega
  go_loopw [7, 20] (fun x i wr => ∃ k : Nat, k ≤ m ∧ i = .int .i64 k ∧ GSt w.heap.size wr x (grTo (matchB acct) acct rules M k) ∧ (∀ g, x.ownBlock = some g → g = w.heap.size ∨ w1.heap.size ≤ g) ∧ (∀ g, w.heap.size + 1 ≤ g → g < w1.heap.size → wr.heap[g]? = w1.heap[g]?) ∧ w1.heap.size ≤ wr.heap.size ∧ Below w.heap.size w wr) (fun _ i _ => m - (intOf i).toNat)
  case atStart => exact ⟨0, Nat.zero_le _, rfl, (GSt.start w).grow HB1.out, fun g e => .inl (Option.some.inj e).symm, fun _ _ _ => rfl, Nat.le_refl _, below_trans HB0.out HB1.out⟩
  case round =>
    obtain ⟨k, hk, rfl, hgs, hgo, hfr, hws, hb⟩ := hrel
    have HGS : Hid _ := hgs
    have HGO : Hid _ := hgo
    have HFR : Hid _ := hfr
    have HB : Hid _ := hb
    obtain ⟨⟨ag, ng, cg, rfl⟩, _⟩ := hgs
    clear hgo hfr hb
    by_cases hlt : k < m
    · have hslM : ResSl wr (.slice oM m cM) M := (On.move (w' := wr) HON.out fun g hg => HFR.out g (by have := hg.1; rw [hs0] at this; exact this) hg.2).out
      obtain ⟨o', c', e', _, hkM⟩ := hslM
      rw [HML.out] at e' hkM
      cases e'
      obtain ⟨bM, fM, rfl, hcells⟩ := hkM (by omega)
      obtain ⟨e0, e1, e2, v3, e3, hs3⟩ := hcells k hlt
      have HEL : Hid (rd M k = M.getD k ResD.none) := rfl
      obtain ⟨hna, hal3⟩ := HMN.out k hlt
      obtain ⟨r, HR⟩ : ∃ r, Hid (rd M k = r) := ⟨_, rfl⟩
      have HR' : Hid (M.getD k ResD.none = r) := HR.out
      rw [HR'.out] at e0 e1 e2 hs3
      rw [HR.out] at hna hal3
      obtain ⟨_, vfg, hgrow0, hgacts⟩ := HGS.out
      obtain ⟨og, cg', eg⟩ := hgrow0.form
      cases eg
      obtain ⟨xs, hx1, hx2⟩ := hgrow0
      have HX1 : Hid _ := hx1
      have HX2 : Hid _ := hx2
      have HGA2 : Hid _ := hgacts
      have hngl : (grTo (matchB acct) acct rules M k).length ≤ k := grTo_len _ _ _ _ _
      have HNONE : Hid (grantA (matchB acct) acct rules r = [] → grTo (matchB acct) acct rules M (k + 1) = grTo (matchB acct) acct rules M k) := fun h => grTo_none _ _ _ _ k (by rw [HML.out]; exact hlt) (by rw [HR.out]; exact h)
      have HSOME : Hid (grantA (matchB acct) acct rules r ≠ [] → grTo (matchB acct) acct rules M (k + 1) = grTo (matchB acct) acct rules M k ++ [{ r with acts := sortL (grantA (matchB acct) acct rules r) }]) := fun h => by
        have := grTo_some (matchB acct) acct rules M k (by rw [HML.out]; exact hlt) (by rw [HR.out]; exact h)
        rw [HR.out] at this
        exact this
      have HGS' : Hid (GSt w.heap.size wr (.slice (some ag) (grTo (matchB acct) acct rules M k).length cg) (grTo (matchB acct) acct rules M k)) := HGS.out
      have HVG : Hid (∀ g, (Value.slice (some ag) (grTo (matchB acct) acct rules M k).length cg).ownBlock = some g → w.heap.size ≤ g ∧ g < wr.heap.size) := fun g e => hx1.lt g e
      obtain ⟨ng, HNG⟩ : ∃ n, Hid ((grTo (matchB acct) acct rules M k).length = n) := ⟨_, rfl⟩
      rw [HNG.out] at hngl HX1 HGA2 HGS' HVG HGO HGS ⊢
      obtain ⟨o3, n3', c3, ev3⟩ := hs3.form
      subst ev3
      obtain ⟨o3', c3', ev3', hn3c, hc3⟩ := hs3
      cases ev3'
      have HS3 : Hid (StrAt wr (.slice o3 r.acts.length c3) r.acts) := ⟨_, _, rfl, hn3c, hc3⟩
      obtain ⟨rty, rcl, rna, racts⟩ := r
      simp only [] at e0 e1 e2 hna hal3 hn3c HS3 hc3
      obtain ⟨n3, HN3⟩ : ∃ n, Hid (racts.length = n) := ⟨_, rfl⟩
      have HC3 : Hid (0 < racts.length → ∃ b f, o3 = some ⟨b, f, none⟩ ∧ ∀ i, i < racts.length → wr.cell? ⟨b, f + i, none⟩ = some (.string (racts.getD i ByteArray.empty))) := hc3
      rw [show (ResD.mk rty rcl rna racts).acts.length = n3 from HN3.out] at e3
      rw [HN3.out] at HS3 hal3 hn3c HC3
      have hbl : bM < wr.heap.size := World.block_lt_of_cell? _ _ e0
      have hbn : ¬ bM = wr.heap.size := by omega
      clear hcells hc3 hx1 hx2 hgacts hkM HMN
      obtain ⟨wo, hwo⟩ : ∃ x, x = wr := ⟨wr, rfl⟩
      subst hwo
      have HBLK1 : Hid ((wo.alloc (.cells #[.string rty, .string rcl, .string rna, .slice o3 n3 c3] 56)).heap[wo.heap.size]? = some (.cells #[.string rty, .string rcl, .string rna, .slice o3 n3 c3] 56)) := heap_alloc_new wo _
      have HW1 : Hid (Below wo.heap.size wo (wo.alloc (.cells #[.string rty, .string rcl, .string rna, .slice o3 n3 c3] 56))) := (Below.refl _ wo).alloc (Nat.le_refl _) _
      have HZ1 : Hid ((wo.alloc (.cells #[.string rty, .string rcl, .string rna, .slice o3 n3 c3] 56)).heap.size = wo.heap.size + 1) := World.size_alloc _ _
      go_wp2
      go_loopw [10, 26] (fun x i wx => ∃ j : Nat, j ≤ nr ∧ i = .int .i64 j ∧ OwnStr (wo.heap.size + 1) wx x (allowTo (matchB acct) acct rules ⟨rty, rcl, rna, racts⟩ j) ∧ Below (wo.heap.size + 1) (wo.alloc (.cells #[.string rty, .string rcl, .string rna, .slice o3 n3 c3] 56)) wx) (fun _ i _ => nr - (intOf i).toNat)
      case atStart => exact ⟨0, Nat.zero_le _, rfl, OwnStr.nil _ _, Below.refl _ _⟩
      case round =>
        obtain ⟨j, hj, rfl, hal, hbx⟩ := hrel
        have hzx : wo.heap.size + 1 ≤ wr.heap.size := by have := hbx.size; rw [HZ1.out] at this; exact this
        have HBX : Hid (Below (wo.heap.size + 1) (wo.alloc (.cells #[.string rty, .string rcl, .string rna, .slice o3 n3 c3] 56)) wr) := hbx
        have HBO1 : Hid (Below wo.heap.size wo wr) := below_aft HW1.out (by rw [HZ1.out]; omega) (by rw [HZ1.out]; exact hbx)
        have HBWX : Hid (Below w.heap.size w wr) := below_trans HB.out HBO1.out
        have HBLKX : Hid (wr.heap[wo.heap.size]? = some (.cells #[.string rty, .string rcl, .string rna, .slice o3 n3 c3] 56)) := (hbx.block wo.heap.size (by omega)).trans HBLK1.out
        have hlen := allowTo_len (matchB acct) acct rules ⟨rty, rcl, rna, racts⟩ (fun i hi => (HQ2.out i (by rw [← HNR.out]; exact hi)).2.2.2.1) j (by rw [HNR.out]; exact hj)
        have hlen2 : j * 1048576 ≤ 1048576 * 1048576 := Nat.mul_le_mul_right _ (by omega)
        obtain ⟨ox, cx, ex⟩ := hal.form
        subst ex
        have HAL : Hid _ := hal
        have HALL : Hid ((allowTo (matchB acct) acct rules ⟨rty, rcl, rna, racts⟩ j).length ≤ 1099511627776) := by show _ ≤ _; omega
        clear hbx hal hlen hlen2
        obtain ⟨nx, HNX⟩ : ∃ n, Hid ((allowTo (matchB acct) acct rules ⟨rty, rcl, rna, racts⟩ j).length = n) := ⟨_, rfl⟩
        rw [HNX.out] at HALL ⊢
        have HAL' : Hid (OwnStr (wo.heap.size + 1) wr (.slice ox nx cx) (allowTo (matchB acct) acct rules ⟨rty, rcl, rna, racts⟩ j)) := by
          show OwnStr (wo.heap.size + 1) wr (.slice ox nx cx) (allowTo (matchB acct) acct rules ⟨rty, rcl, rna, racts⟩ j)
          have := HAL.out
          unfold OwnStr
          rw [HNX.out] at this ⊢
          exact this
        clear HAL
        obtain ⟨⟨z0, z1, z2, z3⟩, z4⟩ := block4 HBLKX.out
        clear e0 e1 e2 e3
        by_cases hjl : j < nr
        · obtain ⟨bR, fR, eR, hcR⟩ := HR0.out (by omega)
          obtain ⟨e0, e1, ⟨v1, e2, hs1⟩, e3, v4, e4, hs4⟩ := hcR j hjl
          have eb := HBWX.out.block bR (World.block_lt_of_cell? _ _ e0)
          replace e0 := cell_blocks e0 eb
          replace e1 := cell_blocks e1 eb
          replace e2 := cell_blocks e2 eb
          replace e3 := cell_blocks e3 eb
          replace e4 := cell_blocks e4 eb
          obtain ⟨_, _, hk1, ⟨hk4, _⟩⟩ := HQ2.out j hjl
          have HSTEP : Hid _ := allowTo_step (matchB acct) acct rules ⟨rty, rcl, rna, racts⟩ j (by rw [HNR.out]; exact hjl)
          obtain ⟨d, HD⟩ : ∃ d, Hid (rules.getD j RuleD.none = d) := ⟨_, rfl⟩
          rw [HD.out] at e0 e1 e3 hs1 hs4 hk1 hk4 HSTEP
          obtain ⟨o1, n1, c1, ev1⟩ := hs1.form
          subst ev1
          obtain ⟨o4, n4, c4, ev4⟩ := hs4.form
          subst ev4
          obtain ⟨dac, dty, dlits, dus, dacts⟩ := d
          simp only [] at e0 e1 e3 hk4
          have HS1 : Hid (StrAt w (.slice o1 n1 c1) dlits) := hs1
          have HS4 : Hid (StrAt w (.slice o4 n4 c4) dacts) := hs4
          have HK1 : Hid (StrsOk dlits) := hk1
          have HK4 : Hid (dacts.length ≤ 1048576) := hk4
          have HW2 : Hid (Below wr.heap.size wr (wr.alloc (.cells #[.string dac, .string dty, .slice o1 n1 c1, .bool dus, .slice o4 n4 c4] 51))) := (Below.refl _ wr).alloc (Nat.le_refl _) _
          have HBLK2 : Hid ((wr.alloc (.cells #[.string dac, .string dty, .slice o1 n1 c1, .bool dus, .slice o4 n4 c4] 51)).heap[wr.heap.size]? = some (.cells #[.string dac, .string dty, .slice o1 n1 c1, .bool dus, .slice o4 n4 c4] 51)) := heap_alloc_new wr _
          have HAP : Hid _ := applies_any dac dty (.slice o1 n1 c1) (.slice o4 n4 c4) dus dlits dacts acct rty rcl rna (.slice o3 n3 c3) racts (wr.alloc (.cells #[.string dac, .string dty, .slice o1 n1 c1, .bool dus, .slice o4 n4 c4] 51)) (shaped_below HSH.out (below_trans HBWX.out HW2.out)) (HS1.out.below (below_trans HBWX.out HW2.out)) hk1 q3 hna
          have hbl : bR < wr.heap.size := World.block_lt_of_cell? _ _ e0
          have hbn : ¬ bR = wr.heap.size := by omega
          have hon : ¬ wo.heap.size = wr.heap.size := by omega
          have hoz : wo.heap.size < wr.heap.size := by omega
          clear hcR eb hs1 hs4 hk1 hk4
          subst eR
          cases hap : applB (matchB acct) acct ⟨dac, dty, dlits, dus, dacts⟩ ⟨rty, rcl, rna, racts⟩
          · rw [hap] at HAP HSTEP
            go_wp2_with (first | (go_at_call 46; refine (show Calls Tryd.prog 46 _ (wr.alloc (.cells #[.string dac, .string dty, .slice o1 n1 c1, .bool dus, .slice o4 n4 c4] 51)) _ from HAP.out).mono ?_; rintro e w2 ⟨rfl, hb2⟩; have HB2 : Hid (Below wr.heap.size wr w2) := below_trans HW2.out hb2; clear hb2))
            go_roundw
            case rel => exact ⟨j + 1, by omega, by go_num, by
              rw [HSTEP.out]
              simp only [Bool.false_eq_true, if_false, List.append_nil]
              exact HAL'.out.move fun g e => HB2.out.block g (HAL'.out.lt e).2, below_aft HBX.out (by omega) HB2.out⟩
            case measure => simp [intOf]; omega
          · rw [hap] at HAP HSTEP
            go_wp2_with (first
              | (go_at_call 46; refine (show Calls Tryd.prog 46 _ (wr.alloc (.cells #[.string dac, .string dty, .slice o1 n1 c1, .bool dus, .slice o4 n4 c4] 51)) _ from HAP.out).mono ?_; rintro e w2 ⟨rfl, hb2⟩; have HB2 : Hid (Below wr.heap.size wr w2) := below_trans HW2.out hb2; obtain ⟨⟨y0, y1, y2, y3, y4⟩, y5⟩ := block5 ((hb2.block wr.heap.size (Row.lt ⟨_, _, HBLK2.out, rfl⟩)).trans HBLK2.out); have HAL2 : Hid (OwnStr (wo.heap.size + 1) w2 (.slice ox nx cx) (allowTo (matchB acct) acct rules ⟨rty, rcl, rna, racts⟩ j)) := HAL'.out.move (fun g e => HB2.out.block g (HAL'.out.lt e).2); clear hb2)
              | (at_builtin; refine wpList_append_strs rfl _ _ rfl (wo.heap.size + 1) (.slice ox nx cx) (.slice o4 n4 c4) (allowTo (matchB acct) acct rules ⟨rty, rcl, rna, racts⟩ j) dacts rfl rfl HAL2.out (HS4.out.below (below_trans HBWX.out HB2.out)) (by rw [HNX.out]; have := HALL.out; have := HK4.out; omega) (by have := HB2.out.size; omega) ?_; intro o5 n5 c5 w3 hn5 hown5 hgrow5 hat5; have HOWN5 : Hid _ := hown5; have HGROW5 : Hid _ := hgrow5; clear hn5 hown5 hgrow5 hat5))
            go_roundw
            case rel => exact ⟨j + 1, by omega, by go_num, by
              rw [HSTEP.out]
              simp only [if_true]
              exact HOWN5.out, below_grow (below_aft HBX.out (by omega) HB2.out) HGROW5.out (by have := HB2.out.size; omega) (fun g e => (HAL'.out.lt e).1)⟩
            case measure => simp [intOf]; omega
        · obtain rfl : j = nr := by omega
          obtain ⟨wx, hwx⟩ : ∃ x, x = wr := ⟨wr, rfl⟩
          subst hwx
          have HALE0 : Hid (allowTo (matchB acct) acct rules ⟨rty, rcl, rna, racts⟩ j = allowedL (matchB acct) acct rules ⟨rty, rcl, rna, racts⟩) := by
            show allowTo (matchB acct) acct rules ⟨rty, rcl, rna, racts⟩ j = _
            rw [← HNR.out]
            exact allowTo_all _ _ _ _
          obtain ⟨AL, HALE⟩ : ∃ AL, Hid (allowTo (matchB acct) acct rules ⟨rty, rcl, rna, racts⟩ j = AL) := ⟨_, rfl⟩
          have HGAE : Hid (grantA (matchB acct) acct rules ⟨rty, rcl, rna, racts⟩ = okTo AL racts racts.length) := by
            show racts.filter (okAct (allowedL (matchB acct) acct rules ⟨rty, rcl, rna, racts⟩)) = _
            rw [okTo_all, ← HALE.out, HALE0.out]
          rw [HALE.out] at HAL' HNX
          have hnx : nx ≤ 1099511627776 := HALL.out
          go_wp2
          go_loopw [13, 42] (fun y i wy => ∃ a : Nat, a ≤ n3 ∧ i = .int .i64 a ∧ OwnStr wx.heap.size wy y (okTo AL racts a) ∧ Below wx.heap.size wx wy) (fun _ i _ => n3 - (intOf i).toNat)
          case atStart => exact ⟨0, Nat.zero_le _, rfl, OwnStr.nil _ _, Below.refl _ _⟩
          case round =>
            obtain ⟨a, hA, rfl, hact, hby⟩ := hrel
            have HBY : Hid (Below wx.heap.size wx wr) := hby
            have hyz : wx.heap.size ≤ wr.heap.size := hby.size
            have HBOY : Hid (Below wo.heap.size wo wr) := below_trans HBO1.out hby
            have HSX : Hid (StrAt wr (.slice ox nx cx) AL) := HAL'.out.at.below hby
            have hny0 : (okTo AL racts a).length ≤ a := okTo_len AL racts a
            obtain ⟨oy, cy, ey⟩ := hact.form
            subst ey
            obtain ⟨ny, HNY⟩ : ∃ n, Hid ((okTo AL racts a).length = n) := ⟨_, rfl⟩
            rw [HNY.out] at hact hny0 ⊢
            have HACT : Hid (OwnStr wx.heap.size wr (.slice oy ny cy) (okTo AL racts a)) := hact
            clear hact hby z0 z1 z2 z3 z4
            by_cases hal : a < n3
            · obtain ⟨b3, f3, eo3, hc3⟩ := HC3.out (by omega)
              have hcell := cell_blocks (hc3 a hal) (HBOY.out.block b3 (World.block_lt_of_cell? _ _ (hc3 a hal)))
              have HSTEP : Hid _ := okTo_step AL racts a (by rw [HN3.out]; exact hal)
              obtain ⟨s, HS⟩ : ∃ s, Hid (racts.getD a ByteArray.empty = s) := ⟨_, rfl⟩
              rw [HS.out] at hcell HSTEP
              have hcon1 := contains_con (.slice ox nx cx) AL s wr HSX.out (by rw [HNX.out]; omega)
              have hcon2 : Calls Tryd.prog 47 #[.slice ox nx cx, .string ⟨#[42]⟩] wr fun e w' => e = .returned (.bool (hasB AL starB)) ∧ w' = wr := contains_con (.slice ox nx cx) AL starB wr HSX.out (by rw [HNX.out]; omega)
              have HOK : Hid (okAct AL s = (hasB AL s || hasB AL starB)) := rfl
              clear hc3
              subst eo3
              cases p1 : hasB AL s
              · cases p2 : hasB AL starB
                · rw [p1] at hcon1 HOK
                  rw [p2] at hcon2 HOK
                  go_wp2_with (first | (go_at_call_of 47 s; refine hcon1.mono ?_; rintro e w' ⟨rfl, rfl⟩) | (go_at_call 47; refine hcon2.mono ?_; rintro e w' ⟨rfl, rfl⟩))
                  go_roundw
                  case rel => exact ⟨a + 1, by omega, by go_num, by
                    rw [HSTEP.out, HOK.out]
                    simp only [Bool.or_self, Bool.false_eq_true, if_false, List.append_nil]
                    exact HACT.out, HBY.out⟩
                  case measure => simp [intOf]; omega
                · rw [p1] at hcon1 HOK
                  rw [p2] at hcon2 HOK
                  go_wp2_with (first | (go_at_call_of 47 s; refine hcon1.mono ?_; rintro e w' ⟨rfl, rfl⟩) | (go_at_call 47; refine hcon2.mono ?_; rintro e w' ⟨rfl, rfl⟩) | (at_builtin; refine wpList_append_strs rfl _ _ rfl wx.heap.size (.slice oy ny cy) _ (okTo AL racts a) [s] rfl rfl (HACT.out.alloc _) (str_new _ s 9) (by rw [HNY.out]; simp; omega) (by rw [World.size_alloc]; omega) ?_; intro o5 n5 c5 w3 hn5 hown5 hgrow5 hat5; have HOWN5 : Hid _ := hown5; have HGROW5 : Hid _ := hgrow5; clear hn5 hown5 hgrow5 hat5))
                  go_roundw
                  case rel => exact ⟨a + 1, by omega, by go_num, by
                    rw [HSTEP.out, HOK.out]
                    simp only [Bool.or_true, if_true]
                    exact HOWN5.out, below_grow (HBY.out.alloc hyz _) HGROW5.out (by rw [World.size_alloc]; omega) (fun g e => (HACT.out.lt e).1)⟩
                  case measure => simp [intOf]; omega
              · rw [p1] at hcon1 HOK
                go_wp2_with (first | (go_at_call_of 47 s; refine hcon1.mono ?_; rintro e w' ⟨rfl, rfl⟩) | (at_builtin; refine wpList_append_strs rfl _ _ rfl wx.heap.size (.slice oy ny cy) _ (okTo AL racts a) [s] rfl rfl (HACT.out.alloc _) (str_new _ s 9) (by rw [HNY.out]; simp; omega) (by rw [World.size_alloc]; omega) ?_; intro o5 n5 c5 w3 hn5 hown5 hgrow5 hat5; have HOWN5 : Hid _ := hown5; have HGROW5 : Hid _ := hgrow5; clear hn5 hown5 hgrow5 hat5))
                go_roundw
                case rel => exact ⟨a + 1, by omega, by go_num, by
                  rw [HSTEP.out, HOK.out]
                  simp only [Bool.true_or, if_true]
                  exact HOWN5.out, below_grow (HBY.out.alloc hyz _) HGROW5.out (by rw [World.size_alloc]; omega) (fun g e => (HACT.out.lt e).1)⟩
                case measure => simp [intOf]; omega
            · obtain rfl : a = n3 := by omega
              have HGA : Hid (okTo AL racts a = grantA (matchB acct) acct rules ⟨rty, rcl, rna, racts⟩) := by
                show okTo AL racts a = _
                rw [HGAE.out, HN3.out]
              obtain ⟨GA, HGAN⟩ : ∃ l, Hid (grantA (matchB acct) acct rules ⟨rty, rcl, rna, racts⟩ = l) := ⟨_, rfl⟩
              rw [HGA.out, HGAN.out] at HACT HNY
              rw [HGAN.out] at HNONE HSOME
              obtain ⟨wy, hwy⟩ : ∃ x, x = wr := ⟨wr, rfl⟩
              subst hwy
              have HBWY : Hid (Below w.heap.size w wy) := below_trans HB.out HBOY.out
              have hwoy : wo.heap.size ≤ wy.heap.size := by omega
              by_cases hga : ny = 0
              · have HGN : Hid (GA = []) := List.length_eq_zero_iff.1 (HNY.out.trans hga)
                subst hga
                go_wp2
                go_roundw
                case rel => exact ⟨k + 1, by omega, by go_num, by
                  rw [HNONE.out HGN.out]
                  exact HGS'.out.grow HBOY.out, HGO.out, fun g h1 h2 => (HBOY.out.block g (by omega)).trans (HFR.out g h1 h2), by omega, HBWY.out⟩
                case measure => simp [intOf]; omega
              · obtain ⟨ny', rfl⟩ : ∃ x, ny = x + 1 := ⟨ny - 1, by omega⟩
                have HPOS : Hid (0 < GA.length) := by show 0 < GA.length; rw [HNY.out]; omega
                have HLEN : Hid (GA.length < 4611686018427387904) := by show GA.length < _; rw [HNY.out]; omega
                have HGN : Hid (GA ≠ []) := fun e => by have := HPOS.out; rw [e] at this; exact absurd this (Nat.lt_irrefl _)
                have HBLKY : Hid (wy.heap[wo.heap.size]? = some (.cells #[.string rty, .string rcl, .string rna, .slice o3 a c3] 56)) := (HBY.out.block wo.heap.size (by omega)).trans HBLKX.out
                have HYO : Hid (∀ g, (Value.slice oy (ny' + 1) cy).ownBlock = some g → wx.heap.size ≤ g) := fun g e => (HACT.out.lt e).1
                obtain ⟨i0, hi0, hzz0, hzz1, hzz2⟩ := info_parts Tryd.info56
                go_wp2_with (first
                  | (go_at_call 48; refine (sort_con wx.heap.size _ GA _ HACT.out HPOS.out HLEN.out).mono ?_; rintro e w4 ⟨rfl, hown4, hgrow4⟩; have HOWN4 : Hid (OwnStr wx.heap.size w4 (.slice oy (ny' + 1) cy) (sortedL GA)) := hown4; have HG4 : Hid (wy.grownBy w4 (Value.slice oy (ny' + 1) cy).ownBlock) := hgrow4; clear hown4 hgrow4)
                  | (go_at_call 49; refine (compact_con wx.heap.size _ GA _ HOWN4.out HPOS.out HLEN.out).mono ?_; rintro e w5 ⟨u, rfl, hown5, hub, hgrow5⟩; have hfu := hown5.form; obtain ⟨ou, cu, rfl⟩ := hfu; obtain ⟨nu, HNU⟩ : ∃ n, Hid ((sortL GA).length = n) := ⟨_, rfl⟩; rw [HNU.out] at hown5 ⊢; have HOWN5 : Hid (OwnStr wx.heap.size w5 (.slice ou nu cu) (sortL GA)) := hown5; have HB4 : Hid (Below wo.heap.size wo w4) := below_grow HBOY.out HG4.out hwoy (fun g e => Nat.le_trans (by omega) (HYO.out g e)); have HB5 : Hid (Below wo.heap.size wo w5) := below_grow HB4.out hgrow5 HB4.out.size (fun g e => Nat.le_trans (by omega) (HYO.out g e)); have HBLK5 : Hid (w5.heap[wo.heap.size]? = some (.cells #[.string rty, .string rcl, .string rna, .slice o3 a c3] 56)) := (hgrow5.block wo.heap.size (Nat.lt_of_lt_of_le (Row.lt ⟨_, _, HBLKY.out, rfl⟩) HG4.out.size) (fun e => absurd (HYO.out _ e.symm) (by omega))).trans ((HG4.out.block wo.heap.size (Row.lt ⟨_, _, HBLKY.out, rfl⟩) (fun e => absurd (HYO.out _ e.symm) (by omega))).trans HBLKY.out); obtain ⟨⟨p0, p1, p2, p3⟩, p4⟩ := block4 HBLK5.out; have HB7 : Hid (Below wo.heap.size wo ((w5.setCell ⟨wo.heap.size, 3, none⟩ (.slice ou nu cu)).alloc (.cells #[.string rty, .string rcl, .string rna, .slice ou nu cu] 56))) := (HB5.out.setCell (Nat.le_refl _) _).alloc (by rw [World.size_setCell]; exact HB5.out.size) _; have HOWN7 : Hid (((w5.setCell ⟨wo.heap.size, 3, none⟩ (.slice ou nu cu)).alloc (.cells #[.string rty, .string rcl, .string rna, .slice ou nu cu] 56)).ownsRow w.heap.size 56 4 (.slice (some ag) ng cg) ng xs) := ownsRow_move HX1.out (fun g e => HB7.out.block g (HVG.out g e).2); have HNEWS : Hid (∀ j u, [Value.string rty, .string rcl, .string rna, .slice ou nu cu][j]? = some u → ((w5.setCell ⟨wo.heap.size, 3, none⟩ (.slice ou nu cu)).alloc (.cells #[.string rty, .string rcl, .string rna, .slice ou nu cu] 56)).cell? ((⟨w5.heap.size, 0, none⟩ : Addr).add j) = some u) := (by have := cell_news4 (w := (w5.setCell ⟨wo.heap.size, 3, none⟩ (.slice ou nu cu))) (v0 := .string rty) (v1 := .string rcl) (v2 := .string rna) (v3 := .slice ou nu cu) (t := 56); rw [World.size_setCell] at this; exact this); clear hown5 hgrow5 hub)
                  | (at_builtin; refine wpList_append_own_at _ rfl _ _ 41 rfl w.heap.size 56 i0 _ 4 72 Tryd.underlying41 hi0 hzz0 hzz1 hzz2 rfl (by decide) (.slice (some ag) ng cg) ng xs rfl HOWN7.out ⟨w5.heap.size, 0, none⟩ 1 1 [.string rty, .string rcl, .string rna, .slice ou nu cu] rfl rfl HNEWS.out (by simp [Value.oneCell']) (by unfold maxLen; omega) (by omega) (Nat.le_trans HB.out.size HB7.out.size) ?_; intro v8 w8 hown8 hgrow8 hnil8 hat8; have HOWN8 : Hid _ := hown8; have HGROW8 : Hid _ := hgrow8; have HAT8 : Hid _ := hat8; clear hown8 hgrow8 hat8 hnil8))
                have h7s : ((w5.setCell ⟨wo.heap.size, 3, none⟩ (.slice ou nu cu)).alloc (.cells #[.string rty, .string rcl, .string rna, .slice ou nu cu] 56)).heap.size = w5.heap.size + 1 := by rw [World.size_alloc, World.size_setCell]
                have HUO : Hid (∀ g, (Value.slice ou nu cu).ownBlock = some g → wx.heap.size ≤ g ∧ g < w5.heap.size) := fun g e => HOWN5.out.lt e
                have HU7 : Hid (On (fun g => wo.heap.size ≤ g ∧ g < ((w5.setCell ⟨wo.heap.size, 3, none⟩ (.slice ou nu cu)).alloc (.cells #[.string rty, .string rcl, .string rna, .slice ou nu cu] 56)).heap.size) (fun w => StrAt w (.slice ou nu cu) (sortL GA)) ((w5.setCell ⟨wo.heap.size, 3, none⟩ (.slice ou nu cu)).alloc (.cells #[.string rty, .string rcl, .string rna, .slice ou nu cu] 56))) :=
                  (HOWN5.out.on.move (w' := ((w5.setCell ⟨wo.heap.size, 3, none⟩ (.slice ou nu cu)).alloc (.cells #[.string rty, .string rcl, .string rna, .slice ou nu cu] 56))) fun g e => by
                    have := HUO.out g e
                    exact (heap_alloc_keep' (by rw [World.size_setCell]; exact this.2)).trans (set_other (by omega))).mono fun g e => by
                      have := HUO.out g e
                      exact ⟨by omega, by rw [h7s]; omega⟩
                have HGST : Hid (GSt w.heap.size w8 v8 (grTo (matchB acct) acct rules M k ++ [⟨rty, rcl, rna, sortL GA⟩])) :=
                  GSt.snoc (w0 := wo) (w := ((w5.setCell ⟨wo.heap.size, 3, none⟩ (.slice ou nu cu)).alloc (.cells #[.string rty, .string rcl, .string rna, .slice ou nu cu] 56))) (vG := .slice (some ag) ng cg) (vf := vfg) (u := .slice ou nu cu) (xs := xs) (by rw [HNG.out]; exact HX1.out) HX2.out (by rw [HNG.out]; exact HGA2.out) HB7.out HU7.out (by rw [HNG.out]; exact HOWN8.out) HGROW8.out HAT8.out
                have HB8 : Hid (Below w.heap.size w w8) := below_grow (below_trans HB.out HB7.out) HGROW8.out (Nat.le_trans HB.out.size HB7.out.size) (fun g e => (HVG.out g e).1)
                have h78 : ((w5.setCell ⟨wo.heap.size, 3, none⟩ (.slice ou nu cu)).alloc (.cells #[.string rty, .string rcl, .string rna, .slice ou nu cu] 56)).heap.size ≤ w8.heap.size := HGROW8.out.size
                have h57 : wo.heap.size ≤ w5.heap.size := HB5.out.size
                go_roundw
                case rel => exact ⟨k + 1, by omega, by go_num, by
                  rw [HSOME.out HGN.out]
                  exact HGST.out, fun g e => by
                    rcases HAT8.out with h | h
                    · exact HGO.out g (h ▸ e)
                    · rw [h] at e
                      have := Option.some.inj e
                      exact .inr (by omega), fun g h1 h2 => by
                    rw [HGROW8.out.block g (by omega) (fun e => ?_), HB7.out.block g (by omega)]
                    · exact HFR.out g h1 h2
                    · rcases HGO.out g e.symm with h | h <;> omega, by omega, HB8.out⟩
                case measure => simp [intOf]; omega
    · obtain rfl : k = m := by omega
      go_wp2
      go_ret
      exact ⟨ag, ng, cg, rfl, GSt.sl HGS.out, HB.out⟩
end Go.Proofs.Qxb6601693aDoor
