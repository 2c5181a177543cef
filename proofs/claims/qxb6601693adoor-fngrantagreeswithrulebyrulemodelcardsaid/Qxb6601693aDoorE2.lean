import Derived.Test.Qxb6601693aDoorE1
import Derived.Test.Qxb6601693aDoorG5
import Derived.Test.Qxb6601693aDoorG9
import Derived.Test.Qxb6601693aDoorG16
import Derived.Test.Qxb6601693aDoorE0
namespace Go.Proofs.Qxb6601693aDoor
open Go.RowKit

theorem boolsAt.put {w : World} {B N : Nat} {f g : Nat → Bool} (h : boolsAt w B N f) (k : Nat) (b : Bool) (hg : ∀ p, p < N → g p = if p = k then b else f p) : boolsAt (w.setCell ⟨B, k, none⟩ (.bool b)) B N g := by
  intro j hj
  obtain ⟨h1, h2⟩ := h j hj
  refine ⟨?_, by rw [World.frozen?_setCell]; exact h2⟩
  rw [hg j hj]
  by_cases e : j = k
  · subst e
    rw [if_pos rfl]
    exact World.cell?_setCell_same _ _ _ h1
  · rw [if_neg e, World.cell?_setCell_other _ _ _ _ (by intro h; cases h; exact e rfl)]
    exact h1
theorem keep6 {w w' : World} {b1 b2 b3 p1 p2 q1 q2 r1 r2 : Nat} {v1 v2 v3 v4 v5 v6 : Value} (hb : Below w.heap.size w w') (h : w.cell? ⟨b1, p1, none⟩ = some v1 ∧ w.cell? ⟨b1, p2, none⟩ = some v2 ∧ w.cell? ⟨b2, q1, none⟩ = some v3 ∧ w.cell? ⟨b2, q2, none⟩ = some v4 ∧ w.cell? ⟨b3, r1, none⟩ = some v5 ∧ w.cell? ⟨b3, r2, none⟩ = some v6) :
    w'.cell? ⟨b1, p1, none⟩ = some v1 ∧ w'.cell? ⟨b1, p2, none⟩ = some v2 ∧ w'.cell? ⟨b2, q1, none⟩ = some v3 ∧ w'.cell? ⟨b2, q2, none⟩ = some v4 ∧ w'.cell? ⟨b3, r1, none⟩ = some v5 ∧ w'.cell? ⟨b3, r2, none⟩ = some v6 := by
  obtain ⟨h1, h2, h3, h4, h5, h6⟩ := h
  have e1 := hb.block b1 (World.block_lt_of_cell? _ _ h1)
  have e2 := hb.block b2 (World.block_lt_of_cell? _ _ h3)
  have e3 := hb.block b3 (World.block_lt_of_cell? _ _ h5)
  exact ⟨cell_blocks h1 e1, cell_blocks h2 e1, cell_blocks h3 e2, cell_blocks h4 e2, cell_blocks h5 e3, cell_blocks h6 e3⟩
theorem keep6s {w : World} {B k b1 b2 b3 p1 p2 q1 q2 r1 r2 : Nat} {v v1 v2 v3 v4 v5 v6 : Value} (n1 : ¬ b1 = B) (n2 : ¬ b2 = B) (n3 : ¬ b3 = B) (h : w.cell? ⟨b1, p1, none⟩ = some v1 ∧ w.cell? ⟨b1, p2, none⟩ = some v2 ∧ w.cell? ⟨b2, q1, none⟩ = some v3 ∧ w.cell? ⟨b2, q2, none⟩ = some v4 ∧ w.cell? ⟨b3, r1, none⟩ = some v5 ∧ w.cell? ⟨b3, r2, none⟩ = some v6) :
    (w.setCell ⟨B, k, none⟩ v).cell? ⟨b1, p1, none⟩ = some v1 ∧ (w.setCell ⟨B, k, none⟩ v).cell? ⟨b1, p2, none⟩ = some v2 ∧ (w.setCell ⟨B, k, none⟩ v).cell? ⟨b2, q1, none⟩ = some v3 ∧ (w.setCell ⟨B, k, none⟩ v).cell? ⟨b2, q2, none⟩ = some v4 ∧ (w.setCell ⟨B, k, none⟩ v).cell? ⟨b3, r1, none⟩ = some v5 ∧ (w.setCell ⟨B, k, none⟩ v).cell? ⟨b3, r2, none⟩ = some v6 := by
  obtain ⟨h1, h2, h3, h4, h5, h6⟩ := h
  exact ⟨cell_blocks h1 (set_other n1), cell_blocks h2 (set_other n1), cell_blocks h3 (set_other n2), cell_blocks h4 (set_other n2), cell_blocks h5 (set_other n3), cell_blocks h6 (set_other n3)⟩
theorem keep44 {w w' : World} {B C j : Nat} {v0 v1 v2 v3 u0 u1 u2 u3 : Value} (hb : Below w.heap.size w w') (h : w.cell? ⟨B, j, none⟩ = some v0 ∧ w.cell? ⟨B, j + 1, none⟩ = some v1 ∧ w.cell? ⟨B, j + 2, none⟩ = some v2 ∧ w.cell? ⟨B, j + 3, none⟩ = some v3 ∧ w.cell? ⟨C, 0, none⟩ = some u0 ∧ w.cell? ⟨C, 1, none⟩ = some u1 ∧ w.cell? ⟨C, 2, none⟩ = some u2 ∧ w.cell? ⟨C, 3, none⟩ = some u3) :
    w'.cell? ⟨B, j, none⟩ = some v0 ∧ w'.cell? ⟨B, j + 1, none⟩ = some v1 ∧ w'.cell? ⟨B, j + 2, none⟩ = some v2 ∧ w'.cell? ⟨B, j + 3, none⟩ = some v3 ∧ w'.cell? ⟨C, 0, none⟩ = some u0 ∧ w'.cell? ⟨C, 1, none⟩ = some u1 ∧ w'.cell? ⟨C, 2, none⟩ = some u2 ∧ w'.cell? ⟨C, 3, none⟩ = some u3 := by
  obtain ⟨h0, h1, h2, h3, h4, h5, h6, h7⟩ := h
  have e := hb.block B (World.block_lt_of_cell? _ _ h0)
  have e' := hb.block C (World.block_lt_of_cell? _ _ h4)
  exact ⟨cell_blocks h0 e, cell_blocks h1 e, cell_blocks h2 e, cell_blocks h3 e, cell_blocks h4 e', cell_blocks h5 e', cell_blocks h6 e', cell_blocks h7 e'⟩
theorem entry_acts (asl : List ResD) (n i : Nat) (r : ResD) (h : rd asl i = r) (l : List ByteArray) : ({ entry asl n i with acts := l } : ResD) = ⟨r.ty, r.cl, r.na, l⟩ := by subst h; rfl
theorem boolsAt.below {w w' : World} {B N : Nat} {f : Nat → Bool} (h : boolsAt w B N f) (hB : B < w.heap.size) (hb : Below w.heap.size w w') : boolsAt w' B N f := fun q hq =>
  ⟨cell_blocks (h q hq).1 (hb.block B hB), (World.frozen?_of_block (a := ⟨B, q, none⟩) (hb.block B hB)).trans (h q hq).2⟩

set_option maxHeartbeats 16000000 in
set_option maxRecDepth 100000 in
/-- the law -/
theorem grantLaw_any (vr va : Value) (rules : List RuleD) (acct : ByteArray) (asl : List ResD) (w : World) (hsh : w.ShapedOpen Tryd.prog) (h0 : RuleSl w vr rules) (h2 : ResSl w va asl) (ha : acct.size ≤ maxLen) (hl0 : rules.length ≤ maxLen) (hl2 : asl.length ≤ maxLen)
    (hf0 : ∀ i, i < rules.length → RuleFit (rules.getD i RuleD.none)) (hf2 : ∀ i, i < asl.length → ResFit (asl.getD i ResD.none)) :
    Calls Tryd.prog 5 #[vr, .string acct, va] w fun e w' => e = .returned (.bool true) ∧ Below w.heap.size w w' := by
  have hby := gbytes_any vr va rules acct asl w h0 h2 ha hl0 hl2 hf0 hf2
  have HSH : Hid (w.ShapedOpen Tryd.prog) := hsh
  have H0 : Hid (RuleSl w vr rules) := h0
  have H2 : Hid (ResSl w va asl) := h2
  have hnil := fun wx a n c => Lib.run_eql_slice_nil (P := Tryd.prog) wx 41 56 a n c 0 0 Tryd.underlying41
  clear hsh h0 h2 ha hl0 hl2 hf0 hf2
  obtain ⟨nr, HNR⟩ : ∃ n, Hid (rules.length = n) := ⟨_, rfl⟩
  obtain ⟨n, HN⟩ : ∃ n, Hid (asl.length = n) := ⟨_, rfl⟩
  have hmk : ∀ wx, nr ≤ 1048576 → (Instr.makeSlice 44 (.int .i64 nr) (.int .i64 nr)).run Tryd.prog wx = .ok (.slice (some ⟨wx.heap.size, 0, none⟩) nr nr) (wx.alloc (.cells (madeCells #[.bool false] nr) 4)) := fun wx hle => run_make_row' (P := Tryd.prog) 44 4 (.bool false) 1 Tryd.underlying44 Tryd.info4 rfl .i64 .i64 nr (by omega) (by omega) wx
  go_enter Tryd.func5, Tryd.ntmps5
  go_wp2_with (first
    | (go_at_call 17; refine hby.mono ?_; rintro e w' ⟨b, rfl, hX, hw'⟩; rw [hw']; clear hw'; have HX : Hid (b = true → AllOk rules acct asl) := hX; clear hX; cases b)
    | (go_at_call 18; have hok := HX.out (by simp); have HOK : Hid _ := hok; have hq1 : nr ≤ 1048576 := HNR.out ▸ hok.1; have hq4 : n ≤ 1048576 := HN.out ▸ hok.2.2.2.1; have hq3 : acct.size ≤ 1048576 := hok.2.2.1; replace hmk := fun wx => hmk wx hq1; refine (gfits_any _ _ rules acct asl _ H0.out H2.out hok).mono ?_; clear hok HX; rintro e w1 ⟨b1, rfl, hb1⟩; have HB1 : Hid _ := hb1; clear hb1; cases b1)
    | (go_at_call 19; refine (cloneRules_any _ rules _ (H0.out.below HB1.out) HOK.out.1 HOK.out.2.1).mono ?_; rintro e w2 ⟨vR, rfl, hR, hb2⟩; have HB2 : Hid (Below w.heap.size w w2) := below_trans HB1.out hb2; have hR' := hR; obtain ⟨oR, cR, rfl, hj1, hj2⟩ := hR'; clear hj1 hj2; rw [HNR.out] at hR ⊢; have HR : Hid (RuleSl w2 (.slice oR nr cR) rules) := hR; clear hR hb2)
    | (go_at_call 20; refine (cloneRes_any _ asl _ (H2.out.below HB2.out) HOK.out.2.2.2.1 HOK.out.2.2.2.2).mono ?_; rintro e w3 ⟨vA, rfl, hA, hb3⟩; have HB3 : Hid (Below w.heap.size w w3) := below_trans HB2.out hb3; have HR3 : Hid (RuleSl w3 (.slice oR nr cR) rules) := HR.out.below hb3; have hA' := hA; obtain ⟨oA, cA, rfl, hj1, hj2⟩ := hA'; clear hj1 hj2; rw [HN.out] at hA ⊢; have HA : Hid (ResSl w3 (.slice oA n cA) asl) := hA; clear hA hb3)
    | (go_at_call 21; refine (rules_any _ rules _ HR3.out HOK.out.1).mono ?_; rintro e w4 ⟨vS, rfl, hS, hb4⟩; have HB4 : Hid (Below w.heap.size w w4) := below_trans HB3.out hb4; have HR4 : Hid (RuleSl w4 (.slice oR nr cR) rules) := HR3.out.below hb4; have HA4 : Hid (ResSl w4 (.slice oA n cA) asl) := HA.out.below hb4; have hS' := hS; obtain ⟨oS, cS, rfl, hj1, hj2⟩ := hS'; clear hj1 hj2; rw [HNR.out] at hS ⊢; have HS : Hid (RuleSl w4 (.slice oS nr cS) rules) := hS; clear hS hb4)
    | (go_at_call 23; refine (toAccess_any _ asl _ HA4.out HOK.out.2.2.2.1).mono ?_; rintro e w5 ⟨vT, rfl, hT, hb5⟩; have HB5 : Hid (Below w.heap.size w w5) := below_trans HB4.out hb5; have HR5 : Hid (RuleSl w5 (.slice oR nr cR) rules) := HR4.out.below hb5; have HA5 : Hid (ResSl w5 (.slice oA n cA) asl) := HA4.out.below hb5; have HS5 : Hid (RuleSl w5 (.slice oS nr cS) rules) := HS.out.below hb5; have HT : Hid _ := hT; clear hT hb5)
    | (go_at_call 22; refine (grant_any _ _ rules acct asl _ (shaped_below HSH.out HB5.out) HS5.out HT.out HOK.out).mono ?_; rintro e w6 ⟨aG, nG, cG, rfl, hG, hb6⟩; have HB6 : Hid (Below w.heap.size w w6) := below_trans HB5.out hb6; have HR6 : Hid (RuleSl w6 (.slice oR nr cR) rules) := HR5.out.below hb6; have HA6 : Hid (ResSl w6 (.slice oA n cA) asl) := HA5.out.below hb6; have HS6 : Hid (RuleSl w6 (.slice oS nr cS) rules) := HS5.out.below hb6; have HG : Hid (ResSl w6 (.slice (some aG) nG cG) (grantL (matchB acct) acct rules asl)) := hG; clear hG hb6))
  · go_ret
    exact ⟨rfl, Below.refl _ _⟩
  · go_ret
    exact ⟨rfl, HB1.out⟩
  · have hbo0 := made_bools w6 nr
    have hz0 : w6.heap.size < (w6.alloc (.cells (madeCells #[.bool false] nr) 4)).heap.size := lt_alloc w6 _
    have hbb0 : Below w6.heap.size w6 (w6.alloc (.cells (madeCells #[.bool false] nr) 4)) := (Below.refl _ w6).alloc (Nat.le_refl _) _
    obtain ⟨oG', cG', eG, hcG, hkG⟩ := HG.out
    obtain ⟨G, HGNG⟩ : ∃ G, Hid (grantL (matchB acct) acct rules asl = G) := ⟨_, rfl⟩
    rw [HGNG.out] at eG hcG hkG
    obtain ⟨ng, HNG⟩ : ∃ n, Hid (G.length = n) := ⟨_, rfl⟩
    rw [HNG.out] at eG hcG hkG
    cases eG
    have HKG : Hid (0 < nG → ∃ b f, some aG = some ⟨b, f, none⟩ ∧ ∀ i, i < nG → ResAt w6 b (f + i * 4) (G.getD i ResD.none)) := hkG
    have HMET : Hid (∀ i, i ≤ n → (metL (matchB acct) acct rules asl i).length ≤ nG) := fun i hi => by
      obtain ⟨t, ht⟩ := met_prefix (matchB acct) acct rules asl i asl.length (by rw [HN.out]; exact hi)
      rw [met_all, HGNG.out] at ht
      rw [← HNG.out, ht, List.length_append]
      omega
    have HACT : Hid (∀ m, m < asl.length → (rd asl m).acts.length ≤ 1048576) := fun m hm => (HOK.out.2.2.2.2 m hm).2.2.2.1
    have hngn : nG ≤ n := by
      have h5 := HMET.out 0 (Nat.zero_le _)
      rw [← HNG.out, ← HGNG.out]
      unfold grantL
      exact Nat.le_trans (List.length_filterMap_le _ _) (by rw [← HN.out]; exact merge_len asl _)
    clear hkG hby hnil
    go_loopw [9, 11] (fun x y wr => ∃ i : Nat, i ≤ n ∧ y = .int .i64 i ∧ x = .int .i64 ((metL (matchB acct) acct rules asl i).length : Nat) ∧ (∃ f, boolsAt wr w6.heap.size nr f) ∧ w6.heap.size < wr.heap.size ∧ Below w6.heap.size w6 wr) (fun _ y _ => n - (intOf y).toNat)
    case atStart => exact ⟨0, Nat.zero_le _, rfl, rfl, ⟨_, hbo0⟩, hz0, hbb0⟩
    case round =>
      obtain ⟨i, hi, rfl, rfl, ⟨f0, hbo⟩, hzp, hb⟩ := hrel
      clear hbo0 hz0 hbb0 hmk
      have HBO : Hid (boolsAt wr w6.heap.size nr f0) := hbo
      have HB : Hid (Below w6.heap.size w6 wr) := hb
      have hmet := HMET.out i hi
      obtain ⟨idx, HIDX⟩ : ∃ x, Hid ((metL (matchB acct) acct rules asl i).length = x) := ⟨_, rfl⟩
      rw [HIDX.out] at hmet ⊢
      clear hbo hb
      by_cases hlt : i < n
      · have hseen := seen_any (.slice oA n cA) asl i wr (HA6.out.below HB.out) (by rw [HN.out]; exact hlt) (by rw [HN.out]; exact hq4)
        cases hsn : seenR asl i
        · rw [hsn] at hseen
          obtain ⟨o', c', eA, _, hkA⟩ := HA6.out
          rw [HN.out] at eA hkA
          cases eA
          obtain ⟨bA, fA, eoA, hcA⟩ := hkA (by omega)
          have HCA : Hid (∀ q, q < n → ResAt w6 bA (fA + q * 4) (asl.getD q ResD.none)) := hcA
          obtain ⟨g0, g1, g2, u3, g3, hu3⟩ := hcA i hlt
          obtain ⟨ou, nu, cu, eu⟩ := hu3.form
          subst eu
          obtain ⟨_, _, hna, _⟩ := HOK.out.2.2.2.2 i (by rw [HN.out]; exact hlt)
          obtain ⟨r, HRI⟩ : ∃ r, Hid (rd asl i = r) := ⟨_, rfl⟩
          have HRI' : Hid (asl.getD i ResD.none = r) := HRI.out
          rw [HRI'.out] at g0 g1 g2 hna
          have HAPF : Hid (∀ q, applF acct rules (rd asl i) q = applF acct rules r q) := fun q => by rw [HRI.out]
          obtain ⟨wty, wcl, wna, wacts⟩ := r
          simp only [] at g0 g1 g2 hna
          have hbA : bA < w6.heap.size := World.block_lt_of_cell? _ _ g0
          clear hkA hcA hu3
          subst eoA
          go_wp2_with (first | (go_at_call 24; refine hseen.mono ?_; rintro e w7 ⟨rfl, hb7⟩; have HB7 : Hid (Below wr.heap.size wr w7) := hb7; have HB67 : Hid (Below w6.heap.size w6 w7) := below_trans HB.out hb7; have eb7 := HB67.out.block bA hbA; have e0 := cell_blocks g0 eb7; have e1 := cell_blocks g1 eb7; have e2 := cell_blocks g2 eb7; have e3 := cell_blocks g3 eb7; have hz7 : wr.heap.size ≤ w7.heap.size := hb7.size; clear hb7 eb7))
          have HBO7 : Hid (boolsAt w7 w6.heap.size nr f0) := HBO.out.below hzp HB7.out
          have HBO_X : Hid ((w7.alloc (.cells #[.string wty, .string wcl, .string wna, .slice ou nu cu] 47)).heap[w7.heap.size]? = some (.cells #[.string wty, .string wcl, .string wna, .slice ou nu cu] 47)) := heap_alloc_new w7 _
          have HB8 : Hid (Below w6.heap.size w6 (w7.alloc (.cells #[.string wty, .string wcl, .string wna, .slice ou nu cu] 47))) := HB67.out.alloc HB67.out.size _
          have HBO8 : Hid (boolsAt (w7.alloc (.cells #[.string wty, .string wcl, .string wna, .slice ou nu cu] 47)) w6.heap.size nr f0) := HBO7.out.below (by omega) ((Below.refl _ w7).alloc (Nat.le_refl _) _)
          have HZ8 : Hid ((w7.alloc (.cells #[.string wty, .string wcl, .string wna, .slice ou nu cu] 47)).heap.size = w7.heap.size + 1) := World.size_alloc _ _
          clear hseen e0 e1 e2 e3 g0 g1 g2 g3
          go_loopw [13] (fun z wx => ∃ j : Nat, j ≤ nr ∧ z = .int .i64 j ∧ boolsAt wx w6.heap.size nr (fun q => if q < j then applF acct rules ⟨wty, wcl, wna, wacts⟩ q else f0 q) ∧ wx.heap[w7.heap.size]? = some (.cells #[.string wty, .string wcl, .string wna, .slice ou nu cu] 47) ∧ Below w6.heap.size w6 wx) (fun z _ => nr - (intOf z).toNat)
          case atStart => exact ⟨0, Nat.zero_le _, rfl, HBO8.out.congr fun p _ => by simp, HBO_X.out, HB8.out⟩
          case round =>
            obtain ⟨j, hj, rfl, hbo, hbx, hbe⟩ := hrel
            have HBOJ : Hid (boolsAt wr w6.heap.size nr (fun q => if q < j then applF acct rules ⟨wty, wcl, wna, wacts⟩ q else f0 q)) := hbo
            have HBXJ : Hid (wr.heap[w7.heap.size]? = some (.cells #[.string wty, .string wcl, .string wna, .slice ou nu cu] 47)) := hbx
            have HBEJ : Hid (Below w6.heap.size w6 wr) := hbe
            obtain ⟨⟨x0, x1, x2, x3⟩, x4⟩ := block4 hbx
            clear hbo hbx hbe
            have hz7r : w7.heap.size < wr.heap.size := Row.lt ⟨_, _, HBXJ.out, rfl⟩
            by_cases hjl : j < nr
            · obtain ⟨o', c', eR, _, hkR⟩ := HR6.out
              obtain ⟨o'', c'', eS, _, hkS⟩ := HS6.out
              rw [HNR.out] at eR hkR eS hkS
              cases eR
              cases eS
              obtain ⟨bR, fR, eoR, hcR⟩ := hkR (by omega)
              obtain ⟨bS, fS, eoS, hcS⟩ := hkS (by omega)
              obtain ⟨d0, d1, _, _, _⟩ := hcR j hjl
              obtain ⟨_, _, ⟨v1, s2, hs1⟩, s3, _⟩ := hcS j hjl
              have hbR : bR < w6.heap.size := World.block_lt_of_cell? _ _ d0
              have hbS : bS < w6.heap.size := World.block_lt_of_cell? _ _ s2
              replace d0 := cell_blocks d0 (HBEJ.out.block bR hbR)
              replace d1 := cell_blocks d1 (HBEJ.out.block bR hbR)
              replace s2 := cell_blocks s2 (HBEJ.out.block bS hbS)
              replace s3 := cell_blocks s3 (HBEJ.out.block bS hbS)
              obtain ⟨_, _, hk1, _⟩ := HOK.out.2.1 j (by rw [HNR.out]; exact hjl)
              obtain ⟨d, HD⟩ : ∃ d, Hid (rules.getD j RuleD.none = d) := ⟨_, rfl⟩
              have HAJ : Hid (applF acct rules ⟨wty, wcl, wna, wacts⟩ j = applB (matchB acct) acct (rules.getD j RuleD.none) ⟨wty, wcl, wna, wacts⟩) := rfl
              rw [HD.out] at d0 d1 s3 hs1 hk1 HAJ
              obtain ⟨o1, n1, c1, ev1⟩ := hs1.form
              subst ev1
              obtain ⟨dac, dty, dlits, dus, dacts⟩ := d
              simp only [] at d0 d1 s3
              have HAJ2 : Hid (applF acct rules ⟨wty, wcl, wna, wacts⟩ j = (coversB dac acct && (dty.toList == wty.toList && matchB acct ⟨dac, dty, dlits, dus, dacts⟩ wna))) := HAJ.out
              have hco := fun wx => zzCovers_any dac acct wx
              have HMA : Hid (∀ wx, Below w6.heap.size w6 wx → Calls Tryd.prog 13 #[.agg #[.slice o1 n1 c1, .bool dus], .string acct, .string wna] wx fun e w' => e = .returned (.bool (matchB acct ⟨dac, dty, dlits, dus, dacts⟩ wna)) ∧ Below wx.heap.size wx w') := fun wx hbx => match_wide acct wna (.slice o1 n1 c1) dlits dus wx (shaped_below HSH.out (below_trans HB6.out hbx)) (hs1.below hbx) hk1 hq3 hna
              have HSTB : Hid (∀ (b : Bool) (wx : World), applF acct rules ⟨wty, wcl, wna, wacts⟩ j = b → boolsAt wx w6.heap.size nr (fun q => if q < j then applF acct rules ⟨wty, wcl, wna, wacts⟩ q else f0 q) → boolsAt (wx.setCell ⟨w6.heap.size, j, none⟩ (.bool b)) w6.heap.size nr (fun q => if q < j + 1 then applF acct rules ⟨wty, wcl, wna, wacts⟩ q else f0 q)) := fun b wx eb h => h.put j b fun p hp => by
                by_cases ep : p = j
                · rw [ep, if_pos (by omega), if_pos rfl, eb]
                · rw [if_neg ep]
                  by_cases hpj : p < j
                  · rw [if_pos (by omega), if_pos hpj]
                  · rw [if_neg (by omega), if_neg hpj]
              obtain ⟨cv, c0⟩ : ∃ v, wr.cell? ⟨w6.heap.size, j, none⟩ = some v := ⟨_, (HBOJ.out j hjl).1⟩
              have cf : wr.frozen? ⟨w6.heap.size, j, none⟩ = false := (HBOJ.out j hjl).2
              clear hcR hcS hkR hkS hs1 hk1 HAJ
              subst eoR
              subst eoS
              have hj0 : (0 : Int) ≤ (j : Int) := Int.natCast_nonneg _
              have hj1 : (j : Int) < (nr : Int) := by omega
              have nb1 : ¬ bR = w6.heap.size := by omega
              have nb2 : ¬ bS = w6.heap.size := by omega
              have nb3 : ¬ w7.heap.size = w6.heap.size := by omega
              have HBD : Hid (Below w6.heap.size w6 wr.drew) := HBEJ.out.drew
              have HSW : Hid (wr.drew.cell? ⟨bR, fR + j * 5, none⟩ = some (.string dac) ∧ wr.drew.cell? ⟨bR, fR + j * 5 + 1, none⟩ = some (.string dty) ∧ wr.drew.cell? ⟨w7.heap.size, 0, none⟩ = some (.string wty) ∧ wr.drew.cell? ⟨w7.heap.size, 2, none⟩ = some (.string wna) ∧ wr.drew.cell? ⟨bS, fS + j * 5 + 2, none⟩ = some (.slice o1 n1 c1) ∧ wr.drew.cell? ⟨bS, fS + j * 5 + 3, none⟩ = some (.bool dus)) := ⟨d0, d1, x0, x2, s2, s3⟩
              cases qc : coversB dac acct
              · rw [qc] at hco HAJ2
                go_wp2
                refine region_quiet_tail 31 (by kernel_rfl) (by kernel_rfl) ?_
                simp only [List.take_succ_cons, List.take_zero, List.drop_succ_cons, List.drop_zero]
                repeat go_big_quiet_step (fail)
                go_big_quiet_want
                go_big_quiet_op
                refine ⟨_, hco _, ?_⟩
                go_big_quiet_on
                repeat go_big_quiet_step (fail)
                refine wpQuiet_nil ?_
                go_wp2
                go_roundw
                case rel => exact ⟨j + 1, by omega, by go_num, HSTB.out false wr.drew HAJ2.out HBOJ.out, (set_other nb3).trans HBXJ.out, (HBEJ.out.drew).setCell (Nat.le_refl _) _⟩
                case measure => simp [intOf]; omega
              · rw [qc] at hco HAJ2
                cases qt : (dty.toList == wty.toList)
                · rw [qt] at HAJ2
                  go_wp2
                  refine region_quiet_tail 31 (by kernel_rfl) (by kernel_rfl) ?_
                  simp only [List.take_succ_cons, List.take_zero, List.drop_succ_cons, List.drop_zero]
                  repeat go_big_quiet_step (fail)
                  go_big_quiet_want
                  go_big_quiet_op
                  refine ⟨_, hco _, ?_⟩
                  go_big_quiet_on
                  repeat go_big_quiet_step (fail)
                  refine wpQuiet_nil ?_
                  go_wp2
                  go_roundw
                  case rel => exact ⟨j + 1, by omega, by go_num, HSTB.out false wr.drew HAJ2.out HBOJ.out, (set_other nb3).trans HBXJ.out, (HBEJ.out.drew).setCell (Nat.le_refl _) _⟩
                  case measure => simp [intOf]; omega
                · rw [qt] at HAJ2
                  obtain ⟨mb, HMB⟩ : ∃ b, Hid (matchB acct ⟨dac, dty, dlits, dus, dacts⟩ wna = b) := ⟨_, rfl⟩
                  rw [HMB.out] at HMA HAJ2
                  go_wp2
                  go_region_held3 (fun w' => w'.cell? ⟨bR, fR + j * 5, none⟩ = some (.string dac) ∧ w'.cell? ⟨bR, fR + j * 5 + 1, none⟩ = some (.string dty) ∧ w'.cell? ⟨w7.heap.size, 0, none⟩ = some (.string wty) ∧ w'.cell? ⟨w7.heap.size, 2, none⟩ = some (.string wna) ∧ w'.cell? ⟨bS, fS + j * 5 + 2, none⟩ = some (.slice o1 n1 c1) ∧ w'.cell? ⟨bS, fS + j * 5 + 3, none⟩ = some (.bool dus)) (first | with_reducible exact HSW.out | with_reducible exact hS1 | exact keep6s nb1 nb3 nb2 hS1)
                    (first
                      | (go_at_call 25; refine (hco _).mono ?_; rintro e w' ⟨rfl, rfl⟩)
                      | (go_at_call 13; refine (HMA.out _ HBD.out).mono ?_; rintro e w8 ⟨rfl, hb8⟩; have hS1 := keep6 (w := wr.drew) hb8 HSW.out; have HB89 : Hid (Below wr.heap.size wr w8) := below_trans ((Below.refl _ wr).drew) hb8; have HBO89 : Hid (boolsAt w8 w6.heap.size nr (fun q => if q < j then applF acct rules ⟨wty, wcl, wna, wacts⟩ q else f0 q)) := HBOJ.out.below (by omega) HB89.out; obtain ⟨cv8, c08⟩ : ∃ v, w8.cell? ⟨w6.heap.size, j, none⟩ = some v := ⟨_, (HBO89.out j hjl).1⟩; have cf8 : w8.frozen? ⟨w6.heap.size, j, none⟩ = false := (HBO89.out j hjl).2; clear hb8))
                  go_wp2
                  go_roundw
                  case rel => exact ⟨j + 1, by omega, by go_num, HSTB.out mb w8 HAJ2.out HBO89.out, (set_other nb3).trans ((HB89.out.block w7.heap.size hz7r).trans HBXJ.out), (below_trans HBEJ.out HB89.out).setCell (Nat.le_refl _) _⟩
                  case measure => simp [intOf]; omega
            · obtain rfl : j = nr := by omega
              obtain ⟨w9, hw9⟩ : ∃ x, x = wr := ⟨wr, rfl⟩
              subst hw9
              have HBL9 : Hid (∀ q, q < rules.length → w9.cell? ⟨w6.heap.size, q, none⟩ = some (.bool (applF acct rules ⟨wty, wcl, wna, wacts⟩ q))) := fun q hq => by
                have hq' : q < j := by rw [← HNR.out]; exact hq
                rw [(HBOJ.out q hq').1]
                dsimp only
                rw [if_pos hq']
              have HB79 : Hid (Below w6.heap.size w6 w9) := HBEJ.out
              have hz9 : w7.heap.size < w9.heap.size := hz7r
              have HBX9 : Hid (w9.heap[w7.heap.size]? = some (.cells #[.string wty, .string wcl, .string wna, .slice ou nu cu] 47)) := HBXJ.out
              clear x0 x1 x2 x3 x4
              go_wp2
              go_loopw [14, 15] (fun y z wx => ∃ m : Nat, i ≤ m ∧ m ≤ n ∧ z = .int .i64 m ∧ OwnStr w9.heap.size wx y (expT acct rules asl i m 0) ∧ Below w9.heap.size w9 wx) (fun _ z _ => n - (intOf z).toNat)
              case atStart => exact ⟨i, Nat.le_refl _, hi, rfl, by rw [expT_start]; exact OwnStr.nil _ _, Below.refl _ _⟩
              case round =>
                obtain ⟨m, him, hm, rfl, hex, hby⟩ := hrel
                obtain ⟨oy, cy, ey⟩ := hex.form
                subst ey
                obtain ⟨ny, HNY⟩ : ∃ x, Hid ((expT acct rules asl i m 0).length = x) := ⟨_, rfl⟩
                rw [HNY.out] at hex ⊢
                have HEX : Hid (OwnStr w9.heap.size wr (.slice oy ny cy) (expT acct rules asl i m 0)) := hex
                have HBY : Hid (Below w9.heap.size w9 wr) := hby
                have HB6Y : Hid (Below w6.heap.size w6 wr) := below_trans HB79.out hby
                have hzy : w9.heap.size ≤ wr.heap.size := hby.size
                have HBXY : Hid (wr.heap[w7.heap.size]? = some (.cells #[.string wty, .string wcl, .string wna, .slice ou nu cu] 47)) := (hby.block w7.heap.size hz9).trans HBX9.out
                clear hex hby
                by_cases hml : m < n
                · obtain ⟨g0, g1, g2, v4, g3, hs4⟩ := HCA.out m hml
                  obtain ⟨om, nm', cm, ev4⟩ := hs4.form
                  subst ev4
                  obtain ⟨om', cm', ev5, _, hcm⟩ := hs4
                  have eb := HB6Y.out.block bA hbA
                  replace g0 := cell_blocks g0 eb
                  replace g1 := cell_blocks g1 eb
                  replace g2 := cell_blocks g2 eb
                  replace g3 := cell_blocks g3 eb
                  cases ev5
                  obtain ⟨⟨x0, x1, x2, x3⟩, x4⟩ := block4 HBXY.out
                  have hsk := fun wx => sameKey_any (asl.getD m ResD.none) ⟨wty, wcl, wna, wacts⟩ (.slice om (asl.getD m ResD.none).acts.length cm) (.slice ou nu cu) wx
                  have HSK : Hid (sameK (rd asl m) (rd asl i) = sameK (asl.getD m ResD.none) ⟨wty, wcl, wna, wacts⟩) := by
                    show sameK (rd asl m) (rd asl i) = _
                    rw [HRI.out]
                  have hlm : (asl.getD m ResD.none).acts.length ≤ 1048576 := HACT.out m (by rw [HN.out]; exact hml)
                  have HCM : Hid (0 < (asl.getD m ResD.none).acts.length → ∃ b f, om = some ⟨b, f, none⟩ ∧ ∀ i, i < (asl.getD m ResD.none).acts.length → w6.cell? ⟨b, f + i, none⟩ = some (.string ((asl.getD m ResD.none).acts.getD i ByteArray.empty))) := hcm
                  have HHIT : Hid (sameK (rd asl m) (rd asl i) = true → expT acct rules asl i (m + 1) 0 = expT acct rules asl i m (asl.getD m ResD.none).acts.length) := fun e => expT_hit acct rules asl i m him e
                  have HSTP : Hid (∀ a, a < (asl.getD m ResD.none).acts.length → expT acct rules asl i m (a + 1) = if okF acct rules ⟨wty, wcl, wna, wacts⟩ ((asl.getD m ResD.none).acts.getD a ByteArray.empty) then insB (expT acct rules asl i m a) ((asl.getD m ResD.none).acts.getD a ByteArray.empty) else expT acct rules asl i m a) := fun a ha => by
                    have := expT_step acct rules asl i m a ha
                    rw [HRI.out] at this
                    exact this
                  obtain ⟨nm, HNM⟩ : ∃ x, Hid ((asl.getD m ResD.none).acts.length = x) := ⟨_, rfl⟩
                  rw [HNM.out] at g3 hsk hlm HCM HHIT HSTP
                  obtain ⟨sb, HSB⟩ : ∃ b, Hid (sameK (asl.getD m ResD.none) ⟨wty, wcl, wna, wacts⟩ = b) := ⟨_, rfl⟩
                  rw [HSB.out] at HSK hsk
                  obtain ⟨mact, HMA⟩ : ∃ l, Hid ((asl.getD m ResD.none).acts = l) := ⟨_, rfl⟩
                  rw [HMA.out] at HCM HSTP
                  obtain ⟨mr, HMR⟩ : ∃ r, Hid (asl.getD m ResD.none = r) := ⟨_, rfl⟩
                  rw [HMR.out] at g0 g1 g2 hsk
                  obtain ⟨mty, mcl, mna, mact'⟩ := mr
                  simp only [] at g0 g1 g2 hsk
                  have hm0 : (0 : Int) ≤ (m : Int) := Int.natCast_nonneg _
                  have hm1 : (m : Int) < (n : Int) := by omega
                  have HSW : Hid (wr.drew.cell? ⟨bA, fA + m * 4, none⟩ = some (.string mty) ∧ wr.drew.cell? ⟨bA, fA + m * 4 + 1, none⟩ = some (.string mcl) ∧ wr.drew.cell? ⟨bA, fA + m * 4 + 2, none⟩ = some (.string mna) ∧ wr.drew.cell? ⟨bA, fA + m * 4 + 3, none⟩ = some (.slice om nm cm) ∧ wr.drew.cell? ⟨w7.heap.size, 0, none⟩ = some (.string wty) ∧ wr.drew.cell? ⟨w7.heap.size, 1, none⟩ = some (.string wcl) ∧ wr.drew.cell? ⟨w7.heap.size, 2, none⟩ = some (.string wna) ∧ wr.drew.cell? ⟨w7.heap.size, 3, none⟩ = some (.slice ou nu cu)) := ⟨g0, g1, g2, g3, x0, x1, x2, x3⟩
                  clear eb hcm x4
                  cases sb
                  · go_wp2
                    go_region_held3 (fun w' => w'.cell? ⟨bA, fA + m * 4, none⟩ = some (.string mty) ∧ w'.cell? ⟨bA, fA + m * 4 + 1, none⟩ = some (.string mcl) ∧ w'.cell? ⟨bA, fA + m * 4 + 2, none⟩ = some (.string mna) ∧ w'.cell? ⟨bA, fA + m * 4 + 3, none⟩ = some (.slice om nm cm) ∧ w'.cell? ⟨w7.heap.size, 0, none⟩ = some (.string wty) ∧ w'.cell? ⟨w7.heap.size, 1, none⟩ = some (.string wcl) ∧ w'.cell? ⟨w7.heap.size, 2, none⟩ = some (.string wna) ∧ w'.cell? ⟨w7.heap.size, 3, none⟩ = some (.slice ou nu cu)) (first | with_reducible exact HSW.out | with_reducible exact hS1)
                      (first | (go_at_call 26; refine (hsk _).mono ?_; rintro e w10 ⟨rfl, hb10⟩; have hS1 := keep44 (w := wr.drew) hb10 HSW.out; have HB10 : Hid (Below wr.heap.size wr w10) := below_trans ((Below.refl _ wr).drew) hb10; clear hb10))
                    go_wp2
                    go_roundw
                    case rel => exact ⟨m + 1, by omega, by omega, by go_num, by
                      rw [expT_miss acct rules asl i m HSK.out]
                      exact HEX.out.move fun g e => HB10.out.block g (HEX.out.lt e).2, below_aft HBY.out hzy HB10.out⟩
                    case measure => simp [intOf]; omega
                  · go_wp2
                    go_region_held3 (fun w' => w'.cell? ⟨bA, fA + m * 4, none⟩ = some (.string mty) ∧ w'.cell? ⟨bA, fA + m * 4 + 1, none⟩ = some (.string mcl) ∧ w'.cell? ⟨bA, fA + m * 4 + 2, none⟩ = some (.string mna) ∧ w'.cell? ⟨bA, fA + m * 4 + 3, none⟩ = some (.slice om nm cm) ∧ w'.cell? ⟨w7.heap.size, 0, none⟩ = some (.string wty) ∧ w'.cell? ⟨w7.heap.size, 1, none⟩ = some (.string wcl) ∧ w'.cell? ⟨w7.heap.size, 2, none⟩ = some (.string wna) ∧ w'.cell? ⟨w7.heap.size, 3, none⟩ = some (.slice ou nu cu)) (first | with_reducible exact HSW.out | with_reducible exact hS1)
                      (first | (go_at_call 26; refine (hsk _).mono ?_; rintro e w10 ⟨rfl, hb10⟩; have hS1 := keep44 (w := wr.drew) hb10 HSW.out; have hg3 := hS1.2.2.2.1; have HB10 : Hid (Below wr.heap.size wr w10) := below_trans ((Below.refl _ wr).drew) hb10; clear hb10))
                    clear hS1
                    have HEX10 : Hid (OwnStr w9.heap.size w10 (.slice oy ny cy) (expT acct rules asl i m 0)) := HEX.out.move fun g e => HB10.out.block g (HEX.out.lt e).2
                    have HBY10 : Hid (Below w9.heap.size w9 w10) := below_aft HBY.out hzy HB10.out
                    clear g0 g1 g2 g3 x0 x1 x2 x3 hsk
                    go_wp2
                    go_loopw [14, 17] (fun y z wx => ∃ a : Nat, a ≤ nm ∧ z = .int .i64 a ∧ OwnStr w9.heap.size wx y (expT acct rules asl i m a) ∧ Below w9.heap.size w9 wx) (fun _ z _ => nm - (intOf z).toNat)
                    case atStart => exact ⟨0, Nat.zero_le _, rfl, HEX10.out, HBY10.out⟩
                    case round =>
                      clear hg3 HEX10 HBY10 HEX HBY HNY
                      obtain ⟨a, ha, rfl, hex, hby⟩ := hrel
                      obtain ⟨oz, cz, ez⟩ := hex.form
                      subst ez
                      obtain ⟨nz, HNZ⟩ : ∃ x, Hid ((expT acct rules asl i m a).length = x) := ⟨_, rfl⟩
                      rw [HNZ.out] at hex ⊢
                      have HEX : Hid (OwnStr w9.heap.size wr (.slice oz nz cz) (expT acct rules asl i m a)) := hex
                      have HBY : Hid (Below w9.heap.size w9 wr) := hby
                      have HB6Z : Hid (Below w6.heap.size w6 wr) := below_trans HB79.out hby
                      have hzz : w9.heap.size ≤ wr.heap.size := hby.size
                      clear hex hby
                      by_cases hal : a < nm
                      · obtain ⟨bm, fm, eom, hcm⟩ := HCM.out (by omega)
                        have hcell := cell_blocks (hcm a hal) (HB6Z.out.block bm (World.block_lt_of_cell? _ _ (hcm a hal)))
                        have HST : Hid _ := HSTP.out a hal
                        obtain ⟨s, HS⟩ : ∃ s, Hid (mact.getD a ByteArray.empty = s) := ⟨_, rfl⟩
                        rw [HS.out] at hcell HST
                        have hallow := allowed_any (.slice oR j cR) rules w6.heap.size j (applF acct rules ⟨wty, wcl, wna, wacts⟩) s wr (HR6.out.below HB6Z.out) (fun q hq => cell_blocks (HBL9.out q hq) (HBY.out.block w6.heap.size (by omega))) HOK.out.1 HOK.out.2.1
                        rw [allowN_eq, HNR.out] at hallow
                        obtain ⟨ok, HOKB⟩ : ∃ b, Hid (okF acct rules ⟨wty, wcl, wna, wacts⟩ s = b) := ⟨_, rfl⟩
                        rw [HOKB.out] at hallow HST
                        clear hcm
                        subst eom
                        cases ok
                        · go_wp2_with (first | (go_at_call 27; refine hallow.mono ?_; rintro e w' ⟨rfl, hw'⟩; rw [hw']; clear hw'))
                          go_roundw
                          case rel => exact ⟨a + 1, by omega, by go_num, by
                            rw [HST.out]
                            simp only [Bool.false_eq_true, if_false]
                            exact HEX.out, HBY.out⟩
                          case measure => simp [intOf]; omega
                        · have hins := insert_any w9.heap.size (.slice oz nz cz) (expT acct rules asl i m a) s wr HEX.out (expT_len' acct rules asl i m a HACT.out (by rw [HN.out]; exact hml) (by rw [HN.out]; exact hq4)) hzz
                          go_wp2_with (first | (go_at_call 27; refine hallow.mono ?_; rintro e w' ⟨rfl, hw'⟩; rw [hw']; clear hw') | (go_at_call 28; refine hins.mono ?_; rintro e w11 ⟨v11, rfl, hown11, hgrow11, _⟩; have HOWN11 : Hid (OwnStr w9.heap.size w11 v11 (insB (expT acct rules asl i m a) s)) := hown11; have HG11 : Hid (wr.grownBy w11 (Value.slice oz nz cz).ownBlock) := hgrow11; clear hown11 hgrow11))
                          go_roundw
                          case rel => exact ⟨a + 1, by omega, by go_num, by
                            rw [HST.out]
                            simp only [if_true]
                            exact HOWN11.out, below_grow HBY.out HG11.out hzz (fun g e => (HEX.out.lt e).1)⟩
                          case measure => simp [intOf]; omega
                      · obtain rfl : a = nm := by omega
                        go_wp2
                        go_roundw
                        case rel => exact ⟨m + 1, by omega, by omega, by go_num, by
                          rw [HHIT.out HSK.out]
                          exact HEX.out, HBY.out⟩
                        case measure => simp [intOf]; omega
                · obtain rfl : m = n := by omega
                  have HEA : Hid (expT acct rules asl i m 0 = sortL (grantA (matchB acct) acct rules (entry asl asl.length i))) := by
                    show expT acct rules asl i m 0 = _
                    rw [← HN.out]
                    exact expT_all acct rules asl i
                  have HEL : Hid ((expT acct rules asl i m 0).length ≤ 4398046511104) := by
                    show (expT acct rules asl i m 0).length ≤ _
                    have := expT_len acct rules asl i m 0 HACT.out (by rw [HN.out]; exact Nat.le_refl _) (by rw [HN.out]; exact hq4) (Nat.zero_le _)
                    omega
                  have HBOY : Hid (boolsAt wr w6.heap.size j (fun q => if q < j then applF acct rules ⟨wty, wcl, wna, wacts⟩ q else f0 q)) := HBOJ.out.below (by omega) HBY.out
                  obtain ⟨GA, HGA⟩ : ∃ l, Hid (grantA (matchB acct) acct rules (entry asl asl.length i) = l) := ⟨_, rfl⟩
                  have HGE : Hid (expT acct rules asl i m 0 = sortL GA) := by
                    show expT acct rules asl i m 0 = _
                    rw [HEA.out, HGA.out]
                  by_cases hny : ny = 0
                  · have HGN : Hid (grantA (matchB acct) acct rules (entry asl asl.length i) = []) := by
                      show grantA (matchB acct) acct rules (entry asl asl.length i) = []
                      rw [HGA.out]
                      refine (sortL_nil GA).1 (List.length_eq_zero_iff.1 ?_)
                      rw [← HGE.out, HNY.out, hny]
                    have HE : Hid _ := met_none (matchB acct) acct rules asl i hsn HGN.out
                    subst hny
                    go_wp2
                    go_roundw
                    case rel => exact ⟨i + 1, by omega, by go_num, by rw [HE.out, HIDX.out], ⟨_, HBOY.out⟩, by omega, HB6Y.out⟩
                    case measure => simp [intOf]; omega
                  · have HGN : Hid (grantA (matchB acct) acct rules (entry asl asl.length i) ≠ []) := fun e => by
                      rw [HGA.out] at e
                      have h5 : (expT acct rules asl i m 0).length = 0 := by rw [HGE.out, e]; rfl
                      rw [HNY.out] at h5
                      exact hny h5
                    obtain ⟨ny', rfl⟩ : ∃ x, ny = x + 1 := ⟨ny - 1, by omega⟩
                    obtain ⟨hat1, hat2⟩ := met_at (matchB acct) acct rules asl i (by rw [HN.out]; exact hlt) hsn HGN.out
                    have HE : Hid _ := met_some (matchB acct) acct rules asl i hsn HGN.out
                    rw [HIDX.out, HGNG.out, HNG.out] at hat1
                    rw [HIDX.out, HGNG.out] at hat2
                    have HENT : Hid (G.getD idx ResD.none = ⟨wty, wcl, wna, sortL GA⟩) := by
                      show G.getD idx ResD.none = _
                      rw [hat2, entry_acts asl asl.length i _ HRI.out, HGA.out]
                    obtain ⟨bG, fG, eoG, hcG2⟩ := HKG.out (by omega)
                    obtain ⟨k0, k1, k2, v6, k3, hs6⟩ := hcG2 idx hat1
                    rw [HENT.out] at k0 k1 k2 hs6
                    simp only [] at k0 k1 k2
                    obtain ⟨o6, n6, c6, ev6⟩ := hs6.form
                    subst ev6
                    have eb := HB6Y.out.block bG (World.block_lt_of_cell? _ _ k0)
                    have hbG : bG < w6.heap.size := World.block_lt_of_cell? _ _ k0
                    replace k0 := cell_blocks k0 eb
                    replace k1 := cell_blocks k1 eb
                    replace k2 := cell_blocks k2 eb
                    replace k3 := cell_blocks k3 eb
                    obtain ⟨⟨x0, x1, x2, x3⟩, x4⟩ := block4 HBXY.out
                    have HS6 : Hid (StrAt wr (.slice o6 n6 c6) (sortL GA)) := StrAt.below (show StrAt w6 (.slice o6 n6 c6) (sortL GA) from hs6) HB6Y.out
                    have HSY : Hid (StrAt wr (.slice oy (ny' + 1) cy) (sortL GA)) := by
                      have := HEX.out.at
                      rw [HGE.out] at this
                      exact this
                    have HLS : Hid ((sortL GA).length ≤ 4398046511104) := by
                      show (sortL GA).length ≤ _
                      rw [← HGE.out]
                      exact HEL.out
                    have hn1 : ¬ bG = wr.heap.size := by omega
                    have hn2 : ¬ w7.heap.size = wr.heap.size := by omega
                    have hn3 : w7.heap.size < wr.heap.size := by omega
                    have hn4 : bG < wr.heap.size := by omega
                    cases eoG
                    clear hcG2 eb hs6 hat2
                    have hx0 : (0 : Int) ≤ (idx : Int) := Int.natCast_nonneg _
                    have hx1 : (idx : Int) < (nG : Int) := by omega
                    have HW12 : Hid (Below wr.heap.size wr (wr.alloc (.cells #[.string wty, .string wcl, .string wna, .slice o6 n6 c6] 56))) := (Below.refl _ wr).alloc (Nat.le_refl _) _
                    have hsame := same_any (.slice o6 n6 c6) (.slice oy (ny' + 1) cy) (sortL GA) (wr.alloc (.cells #[.string wty, .string wcl, .string wna, .slice o6 n6 c6] 56)) (HS6.out.below HW12.out) (HSY.out.below HW12.out) HLS.out
                    go_wp2_with (first | (go_at_call 29; refine hsame.mono ?_; rintro e w12 ⟨rfl, hb12⟩; have HB12 : Hid (Below wr.heap.size wr w12) := below_trans HW12.out hb12; clear hb12))
                    go_roundw
                    case rel => exact ⟨i + 1, by omega, by go_num, by
                      rw [HE.out, List.length_append, HIDX.out]
                      go_num, ⟨_, HBOY.out.below (by omega) HB12.out⟩, by have := HB12.out.size; omega, below_trans HB6Y.out HB12.out⟩
                    case measure => simp [intOf]; omega
        · rw [hsn] at hseen
          have HE : Hid _ := met_seen (matchB acct) acct rules asl i hsn
          go_wp2_with (first | (go_at_call 24; refine hseen.mono ?_; rintro e w7 ⟨rfl, hb7⟩; have HB7 : Hid (Below wr.heap.size wr w7) := hb7; clear hb7))
          go_roundw
          case rel => exact ⟨i + 1, by omega, by go_num, by rw [HE.out, HIDX.out], ⟨f0, HBO.out.below hzp HB7.out⟩, Nat.lt_of_lt_of_le hzp HB7.out.size, below_trans HB.out HB7.out⟩
          case measure => simp [intOf]; omega
      · obtain rfl : i = n := by omega
        have hee : idx = nG := by
          rw [← HIDX.out, ← HNG.out, ← HGNG.out, ← met_all, HN.out]
        subst hee
        go_wp2
        go_ret
        exact ⟨rfl, below_trans HB6.out HB.out⟩
end Go.Proofs.Qxb6601693aDoor
