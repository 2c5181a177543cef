import Derived.Test.Qxb6601693aDoorD1
import Derived.Test.Qxb6601693aDoorG13
import Derived.Maps.AppendAt
import Derived.Deep.RegionHeld3
import Derived.BigRegion
namespace Go.Proofs.Qxb6601693aDoor
open Go.RowKit Go.Maps

theorem ownsRow_move {base e size n : Nat} {w w' : World} {v : Value} {xs : List Value} (h : w.ownsRow base e size v n xs) (hw : ∀ g, v.ownBlock = some g → w'.heap[g]? = w.heap[g]?) : w'.ownsRow base e size v n xs := by
  refine ⟨h.1, ?_⟩
  rcases h.2 with hn | ⟨g, cap, cur, rfl, hb, hg, rest⟩
  · exact .inl hn
  · exact .inr ⟨g, cap, cur, rfl, hb, (hw g rfl).trans hg, rest⟩
theorem ownBlock_len (o : Option Addr) (n c n' c' : Nat) : (Value.slice o n c).ownBlock = (Value.slice o n' c').ownBlock := by cases o <;> rfl
theorem heap_alloc_keep {w : World} {o o' : Obj} {g : Nat} (h : w.heap[g]? = some o') : (w.alloc o).heap[g]? = some o' :=
  ((World.grownBy_alloc w o none).block g (Array.getElem?_eq_some_iff.1 h).1 (by simp)).trans h
theorem heap_alloc_keep' {w : World} {o : Obj} {g : Nat} (h : g < w.heap.size) : (w.alloc o).heap[g]? = w.heap[g]? := (World.grownBy_alloc w o none).block g h (by simp)
theorem cell_news4 {w : World} {v0 v1 v2 v3 : Value} {t : Nat} : ∀ j u, [v0, v1, v2, v3][j]? = some u → (w.alloc (.cells #[v0, v1, v2, v3] t)).cell? ((⟨w.heap.size, 0, none⟩ : Addr).add j) = some u := fun j u h =>
  World.news_of_block (cs := #[v0, v1, v2, v3]) (t := t) (fr := (0, 0)) (heap_alloc_new w _) j u h

set_option maxHeartbeats 4000000 in
set_option maxRecDepth 100000 in
/-- mergeResources: all that it hands back lies in memory of the call's own -/
theorem mergeRes_any (v : Value) (asl : List ResD) (w : World) (h : ResSl w v asl) (hl : asl.length ≤ 1048576) (hok : ∀ i, i < asl.length → ResOk (rd asl i)) :
    Calls Tryd.prog 45 #[v] w fun e w' => ∃ v', e = .returned v' ∧ On (fun g => w.heap.size ≤ g ∧ g < w'.heap.size) (fun wx => ResSl wx v' (mergeL asl asl.length)) w' ∧ Below w.heap.size w w' := by
  have hmm := @run_makeMap Tryd.prog
  obtain ⟨o, c, rfl, h1, h2⟩ := h
  have HK : Hid (0 < asl.length → ∃ b f, o = some ⟨b, f, none⟩ ∧ ∀ i, i < asl.length → ResAt w b (f + i * 4) (asl.getD i ResD.none)) := h2
  have HOK : Hid (∀ i, i < asl.length → ResOk (rd asl i)) := hok
  have HACT : Hid (∀ m, m < asl.length → (rd asl m).acts.length ≤ 1048576) := fun m hm => (hok m hm).2.2.2.1
  clear h2 hok
  obtain ⟨n, HN⟩ : ∃ n, Hid (asl.length = n) := ⟨_, rfl⟩
  rw [HN.out] at HK HOK h1 hl ⊢
  go_enter Tryd.func45, Tryd.ntmps45
  go_wp2
  go_loopw [3, 13] (fun x i wr => ∃ (k : Nat) (D : DataW Unit), k ≤ n ∧ i = .int .i64 k ∧ MSt w.heap.size w.heap.size wr x (mergeL asl k) ∧ Tie D (mergeL asl k) ∧ wr.ownsMap Tryd.prog 92 (plainElem Tryd.prog 3) w.heap.size k D ∧ Below w.heap.size w wr) (fun _ i _ => n - (intOf i).toNat)
  case atStart => exact ⟨0, .map [], Nat.zero_le _, rfl, MSt.start _ _ _, Tie.start, World.ownsMap_made _ _ _ _, (Below.refl _ w).alloc (Nat.le_refl _) _⟩
  case round =>
    obtain ⟨k, D, hk, rfl, hst, htie, hmap, hb⟩ := hrel
    clear hmm
    by_cases hlt : k < n
    · obtain ⟨b, f, e, hc⟩ := HK.out (by omega)
      cases e
      obtain ⟨e0, e1, e2, v3, e3, hs3⟩ := hc k hlt
      have eb := hb.block b (World.block_lt_of_cell? _ _ e0)
      replace e0 := cell_blocks e0 eb
      replace e1 := cell_blocks e1 eb
      replace e2 := cell_blocks e2 eb
      replace e3 := cell_blocks e3 eb
      obtain ⟨hz0, hz1, hz2, ⟨hz3, _⟩⟩ := HOK.out k hlt
      obtain ⟨r, HR⟩ : ∃ r, Hid (rd asl k = r) := ⟨_, rfl⟩
      have HR' : Hid (asl.getD k ResD.none = r) := HR.out
      rw [HR'.out] at e0 e1 e2 hs3
      rw [HR.out] at hz0 hz1 hz2 hz3
      have HSTEP : Hid (mergeL asl (k + 1) = mergeStep (mergeL asl k) r) := by
        show mergeStep (mergeL asl k) (rd asl k) = _
        rw [HR.out]
      have hmlen : (mergeL asl k).length ≤ k := merge_len asl k
      have HU : Hid (KU (mergeL asl k)) := merge_ku asl k
      have HAL : Hid (∀ i, i < (mergeL asl k).length → (rd (mergeL asl k) i).acts.length ≤ k * 1048576) := fun i hi => merge_acts asl HACT.out k (by rw [HN.out]; exact hk) i hi
      obtain ⟨M, HM⟩ : ∃ M, Hid (mergeL asl k = M) := ⟨_, rfl⟩
      rw [HM.out] at hst htie HSTEP hmlen HU HAL
      obtain ⟨kl, hkl⟩ := keyOf92 r.ty r.cl r.na (by unfold maxLen; omega) (by unfold maxLen; omega) (by unfold maxLen; omega)
      have HHAS : Hid (Maps.has D kl = M.any (sameK · r)) := htie.has r kl hkl
      have HATK : Hid (∀ i, i < M.length → sameK (rd M i) r = true → D.atKey kl (.lit (.int .i64 0)) = .lit (.int .i64 i)) := htie.at_ r kl hkl
      have HTIE : Hid (Tie D M) := htie
      have HMAP : Hid (wr.ownsMap Tryd.prog 92 (plainElem Tryd.prog 3) w.heap.size k D) := hmap
      have HKL : Hid (keyOf Tryd.prog 92 (.agg #[.string r.ty, .string r.cl, .string r.na]) = some kl) := hkl
      have hbml : w.heap.size < wr.heap.size := hmap.lt
      obtain ⟨m, HML⟩ : ∃ m, Hid (M.length = m) := ⟨_, rfl⟩
      rw [HML.out] at hmlen
      obtain ⟨o3, n3, c3, rfl⟩ := hs3.form
      have HS0 : Hid (StrAt w (.slice o3 n3 c3) r.acts) := hs3
      have HL3 : Hid (r.acts.length ≤ 1048576) := hz3
      obtain ⟨vf, hrow, hacts, hvm⟩ := hst
      have HROW : Hid _ := hrow
      have HACTS : Hid _ := hacts
      have HVM : Hid _ := hvm
      have hbl : b < wr.heap.size := World.block_lt_of_cell? _ _ e0
      have hbn : ¬ b = wr.heap.size := by omega
      have HB1 : Hid (Below wr.heap.size wr (wr.alloc (.cells #[.string r.ty, .string r.cl, .string r.na, .slice o3 n3 c3] 56))) := (Below.refl _ wr).alloc (Nat.le_refl _) _
      have HBOX1 : Hid ((wr.alloc (.cells #[.string r.ty, .string r.cl, .string r.na, .slice o3 n3 c3] 56)).heap[wr.heap.size]? = some (.cells #[.string r.ty, .string r.cl, .string r.na, .slice o3 n3 c3] 56)) := heap_alloc_new wr _
      have HBR : Hid (Below w.heap.size w wr) := hb
      clear hc eb hz0 hz1 hz2 hz3 hs3 htie hmap hkl hacts hvm hb
      obtain ⟨rty, rcl, rna, racts⟩ := r
      simp only [] at e0 e1 e2
      cases hany : M.any (sameK · ⟨rty, rcl, rna, racts⟩)
      · rw [hany] at HHAS
        have HANY : Hid _ := hany
        obtain ⟨oM, cM, rfl⟩ := hrow.form
        obtain ⟨xs, hx1, hx2⟩ := HROW.out
        rw [HML.out] at hx1 ⊢
        have HX1 : Hid (wr.ownsRow w.heap.size 56 4 (.slice oM m cM) m xs) := hx1
        have HX2 : Hid _ := hx2
        have HMB : Hid (∀ g, (Value.slice oM m cM).ownBlock = some g → w.heap.size ≤ g ∧ g < wr.heap.size ∧ g ≠ w.heap.size) := fun g e => by
          have h5 := hx1.lt g e
          exact ⟨h5.1, h5.2, fun e' => HVM.out (by rw [ownBlock_len oM M.length cM m cM, ← e']; exact e)⟩
        obtain ⟨i0, hi0, hzz0, hzz1, hzz2⟩ := info_parts Tryd.info56
        clear hrow hany HATK HAL hx1 hx2
        go_wp2_with (first
          | (go_at_call 60; refine (key_any rty rcl rna _ _).mono ?_; rintro e w2 ⟨rfl, hb2⟩; have HB2 : Hid (Below wr.heap.size wr w2) := below_trans HB1.out hb2; have hblk2 := (hb2.block wr.heap.size (Row.lt ⟨_, _, HBOX1.out, rfl⟩)).trans HBOX1.out; have HBLK2 : Hid (w2.heap[wr.heap.size]? = some (.cells #[.string rty, .string rcl, .string rna, .slice o3 n3 c3] 56)) := hblk2; obtain ⟨⟨q0, q1, q2, q3⟩, q4⟩ := block4 hblk2; have hne2 : ¬ wr.heap.size = w2.heap.size := (by have := Row.lt ⟨_, _, hblk2, rfl⟩; omega); clear hb2 hblk2)
          | (at_lookup; refine wpList_lookup_own_ok_int _ rfl _ _ 90 rfl 92 3 .i64 Tryd.keyed92 Tryd.underlying90 Tryd.underlying3 (Tryd.zero3 _) w.heap.size k D rfl ((HMAP.out.kept (below_grown HB2.out none) (by simp)).alloc _) _ kl rfl HKL.out ?_; intro cc hat hwc; rw [HHAS.out]; clear hat hwc)
          | (at_mapUpdate; refine wpList_mapUpdate_own _ rfl _ _ _ 90 rfl 92 3 Tryd.keyed92 Tryd.underlying90 _ w.heap.size k D rfl ((HMAP.out.kept (below_grown HB2.out none) (by simp)).alloc _) (by unfold maxLen; omega) _ _ kl rfl rfl HKL.out _ [] (plainElem_int Tryd.underlying3 (WalkArith.wf_i64 (by omega))) ?_; intro w4 hmap4 hgrow4; have HMAP4 : Hid _ := hmap4; have HB3 : Hid (Below wr.heap.size wr (w2.alloc (.cells #[.string rty, .string rcl, .string rna] 92))) := HB2.out.alloc HB2.out.size _; have HBB4 : Hid (Below w.heap.size w w4) := below_grow (below_trans HBR.out HB3.out) hgrow4 (below_trans HBR.out HB3.out).size (fun k' e => (by cases e; exact Nat.le_refl _)); have HFR4 : Hid (∀ k', k' < wr.heap.size → k' ≠ w.heap.size → w4.heap[k']? = wr.heap[k']?) := (fun k' hk' hne' => (hgrow4.block k' (Nat.lt_of_lt_of_le hk' HB3.out.size) (fun e => hne' (Option.some.inj e))).trans (HB3.out.block k' hk')); have HBLK4 : Hid (w4.heap[wr.heap.size]? = some (.cells #[.string rty, .string rcl, .string rna, .slice o3 n3 c3] 56)) := (hgrow4.block wr.heap.size (Row.lt ⟨_, _, heap_alloc_keep HBLK2.out, rfl⟩) (fun e => absurd (Option.some.inj e) (by omega))).trans (heap_alloc_keep HBLK2.out); obtain ⟨⟨r0, r1, r2, r3⟩, r4⟩ := block4 HBLK4.out; clear hmap4 hgrow4)
          | (go_at_call 61; refine (clone_con _ racts _ (HS0.out.below HBB4.out) HL3.out).mono ?_; rintro e w5 ⟨u, rfl, hown5, hb5⟩; have hfu := hown5.form; obtain ⟨ou, cu, rfl⟩ := hfu; obtain ⟨nu, HNU⟩ : ∃ n, Hid (racts.length = n) := ⟨_, rfl⟩; rw [HNU.out] at hown5 ⊢; have HOWN5 : Hid _ := hown5; have HB5 : Hid _ := hb5; have HBLK5 : Hid (w5.heap[wr.heap.size]? = some (.cells #[.string rty, .string rcl, .string rna, .slice o3 n3 c3] 56)) := (hb5.block wr.heap.size (Row.lt ⟨_, _, HBLK4.out, rfl⟩)).trans HBLK4.out; obtain ⟨⟨p0, p1, p2, p3⟩, p4⟩ := block4 HBLK5.out; have HFR5 : Hid (∀ k', k' < wr.heap.size → k' ≠ w.heap.size → w5.heap[k']? = wr.heap[k']?) := (fun k' hk' hne' => (hb5.block k' (Nat.lt_trans hk' (Row.lt ⟨_, _, HBLK4.out, rfl⟩))).trans (HFR4.out k' hk' hne')); have HOWN7 : Hid (((w5.setCell ⟨wr.heap.size, 3, none⟩ (.slice ou nu cu)).alloc (.cells #[.string rty, .string rcl, .string rna, .slice ou nu cu] 56)).ownsRow w.heap.size 56 4 (.slice oM m cM) m xs) := ownsRow_move HX1.out (fun g' e => (heap_alloc_keep' (by rw [World.size_setCell]; exact Nat.lt_of_lt_of_le (Nat.lt_trans (HMB.out g' e).2.1 (Row.lt ⟨_, _, HBLK5.out, rfl⟩)) (Nat.le_refl _))).trans ((set_other (fun e' => absurd (HMB.out g' e).2.1 (by omega))).trans (HFR5.out g' (HMB.out g' e).2.1 (HMB.out g' e).2.2))); have HNEWS : Hid (∀ j u, [Value.string rty, .string rcl, .string rna, .slice ou nu cu][j]? = some u → ((w5.setCell ⟨wr.heap.size, 3, none⟩ (.slice ou nu cu)).alloc (.cells #[.string rty, .string rcl, .string rna, .slice ou nu cu] 56)).cell? ((⟨w5.heap.size, 0, none⟩ : Addr).add j) = some u) := (by have := cell_news4 (w := (w5.setCell ⟨wr.heap.size, 3, none⟩ (.slice ou nu cu))) (v0 := .string rty) (v1 := .string rcl) (v2 := .string rna) (v3 := .slice ou nu cu) (t := 56); rw [World.size_setCell] at this; exact this); clear hown5 hb5)
          | (at_builtin; refine wpList_append_own_at _ rfl _ _ 41 rfl w.heap.size 56 i0 _ 4 72 Tryd.underlying41 hi0 hzz0 hzz1 hzz2 rfl (by decide) (.slice oM m cM) m xs rfl HOWN7.out ⟨w5.heap.size, 0, none⟩ 1 1 [.string rty, .string rcl, .string rna, .slice ou nu cu] rfl rfl HNEWS.out (by simp [Value.oneCell']) (by unfold maxLen; omega) (by omega) (by simp; have := HBB4.out.size; have := HB5.out.size; omega) ?_; intro v8 w8 hown8 hgrow8 hnil8 hat8; have HOWN8 : Hid _ := hown8; have HGROW8 : Hid _ := hgrow8; have HAT8 : Hid _ := hat8; clear hown8 hgrow8 hat8 hnil8))
        have h4r : wr.heap.size < w4.heap.size := Row.lt ⟨_, _, HBLK4.out, rfl⟩
        have h5r : w4.heap.size ≤ w5.heap.size := HB5.out.size
        have h7s : ((w5.setCell ⟨wr.heap.size, 3, none⟩ (.slice ou nu cu)).alloc (.cells #[.string rty, .string rcl, .string rna, .slice ou nu cu] 56)).heap.size = w5.heap.size + 1 := by rw [World.size_alloc, World.size_setCell]
        have HFR7 : Hid (∀ k', k' < w5.heap.size → k' ≠ wr.heap.size → ((w5.setCell ⟨wr.heap.size, 3, none⟩ (.slice ou nu cu)).alloc (.cells #[.string rty, .string rcl, .string rna, .slice ou nu cu] 56)).heap[k']? = w5.heap[k']?) := fun k' hk' hne' => (heap_alloc_keep' (by rw [World.size_setCell]; exact hk')).trans (set_other hne')
        have HU5 : Hid (∀ g, (Value.slice ou nu cu).ownBlock = some g → w4.heap.size ≤ g ∧ g < w5.heap.size) := fun g e => OwnStr.lt (ss := racts) HOWN5.out e
        have HO7 : Hid (OwnStr w.heap.size ((w5.setCell ⟨wr.heap.size, 3, none⟩ (.slice ou nu cu)).alloc (.cells #[.string rty, .string rcl, .string rna, .slice ou nu cu] 56)) (.slice ou nu cu) racts) := by
          refine OwnStr.move (w := w5) (OwnStr.base (base := w4.heap.size) HOWN5.out fun g e => ?_) fun g e => ?_
          · have := (HU5.out g e).1
            omega
          · have := HU5.out g e
            exact HFR7.out g this.2 (by omega)
        have HMST : Hid (MSt w.heap.size w.heap.size w8 v8 (mergeStep M ⟨rty, rcl, rna, racts⟩)) := by
          show MSt w.heap.size w.heap.size w8 v8 (mergeStep M ⟨rty, rcl, rna, racts⟩)
          rw [step_new HANY.out]
          refine mst_snoc (w0 := wr) (w := ((w5.setCell ⟨wr.heap.size, 3, none⟩ (.slice ou nu cu)).alloc (.cells #[.string rty, .string rcl, .string rna, .slice ou nu cu] 56))) (vM := .slice oM m cM) (vf := vf) (u := .slice ou nu cu) (xs := xs) (by rw [HML.out]; exact HX1.out) HX2.out ?_ (fun e => (HMB.out _ e).2.2 rfl) hbml (by omega) (fun k' hk' hne' => ?_) HO7.out (fun g e => by have := (HU5.out g e).1; omega) (by rw [HML.out]; exact HOWN8.out) HGROW8.out HAT8.out
          · have := HACTS.out
            exact ⟨this.own, fun i hi g e => ⟨fun e' => (this.row i hi g e).1 (by rw [ownBlock_len oM M.length cM m cM]; exact e'), (this.row i hi g e).2⟩, this.two⟩
          · rw [HFR7.out k' (by omega) (by omega)]
            exact HFR5.out k' hk' hne'
        have HTIE8 : Hid (Tie (D.put kl (.lit (.int .i64 m))) (mergeStep M ⟨rty, rcl, rna, racts⟩)) := by
          have := HTIE.out.new (r := ⟨rty, rcl, rna, racts⟩) HKL.out HANY.out
          rw [HML.out] at this
          exact this
        have HMAP8 : Hid (w8.ownsMap Tryd.prog 92 (plainElem Tryd.prog 3) w.heap.size (k + 1) (D.put kl (.lit (.int .i64 m)))) :=
          ((((World.ownsMap.kept HMAP4.out (below_grown HB5.out none) (by simp)).kept (grown_set (g := wr.heap.size) (grown_refl w5 _) 3 (.slice ou nu cu)) (fun e => absurd (Option.some.inj e) (by omega))).alloc _).kept HGROW8.out (fun e => (HMB.out _ e.symm).2.2 rfl))
        have HB8 : Hid (Below w.heap.size w w8) := by
          have h5b : Below w.heap.size w w5 := below_trans HBB4.out HB5.out
          exact below_grow ((h5b.setCell (Nat.le_of_lt hbml) _).alloc (by rw [World.size_setCell]; omega) _) HGROW8.out (by rw [h7s]; omega) (fun k' e => (HMB.out k' e).1)
        go_roundw
        case rel => exact ⟨k + 1, _, by omega, by go_num, by rw [HSTEP.out]; exact HMST.out, by rw [HSTEP.out]; exact HTIE8.out, HMAP8.out, HB8.out⟩
        case measure => simp [intOf]; omega
      · rw [hany] at HHAS
        obtain ⟨i, hi, hsi⟩ := any_true hany
        have HAT : Hid _ := HATK.out i hi hsi
        have HSI : Hid _ := hsi
        have him : i < m := by rw [← HML.out]; exact hi
        obtain ⟨g, cap, rfl, hbg, hgl⟩ := hrow.block (by omega)
        have HVM' : Hid (g ≠ w.heap.size) := fun e => HVM.out (by rw [e]; rfl)
        obtain ⟨oi, ci, evi⟩ := (HACTS.out.own i hi).form
        obtain ⟨ni, HNI⟩ : ∃ n, Hid ((rd M i).acts.length = n) := ⟨_, rfl⟩
        rw [HNI.out] at evi
        have hnl : ni ≤ k * 1048576 := by rw [← HNI.out]; exact HAL.out i hi
        have d3 := (hrow.cell hi).1.2.2.2
        rw [evi] at d3
        have HEV : Hid (vf i = .slice oi ni ci) := evi
        have HD3 : Hid (wr.cell? ⟨g, i * 4 + 3, none⟩ = some (.slice oi ni ci)) := d3
        rw [HML.out]
        clear hrow hany hsi HATK evi d3 HAL
        have hi0 : (0 : Int) ≤ (i : Int) := Int.natCast_nonneg _
        have hi1 : (i : Int) < (m : Int) := by omega
        go_wp2_with (first
          | (go_at_call 60; refine (key_any rty rcl rna _ _).mono ?_; rintro e w2 ⟨rfl, hb2⟩; have HB2 : Hid (Below wr.heap.size wr w2) := below_trans HB1.out hb2; have hblk2 := (hb2.block wr.heap.size (Row.lt ⟨_, _, HBOX1.out, rfl⟩)).trans HBOX1.out; obtain ⟨⟨q0, q1, q2, q3⟩, q4⟩ := block4 hblk2; have hne2 : ¬ wr.heap.size = w2.heap.size := (by have := Row.lt ⟨_, _, hblk2, rfl⟩; omega); clear hb2 hblk2)
          | (at_lookup; refine wpList_lookup_own_ok_int _ rfl _ _ 90 rfl 92 3 .i64 Tryd.keyed92 Tryd.underlying90 Tryd.underlying3 (Tryd.zero3 _) w.heap.size k D rfl ((HMAP.out.kept (below_grown HB2.out none) (by simp)).alloc _) _ kl rfl HKL.out ?_; intro cc hat hwc; have hcc : cc = (i : Int) := (by have := hat.symm.trans HAT.out; simpa using this); subst hcc; rw [HHAS.out]; clear hat hwc))
        have hd3 : w2.cell? ⟨g, i * 4 + 3, none⟩ = some (.slice oi ni ci) := cell_blocks HD3.out (HB2.out.block g hgl)
        have hg2 : ¬ g = w2.heap.size := by have := HB2.out.size; omega
        have hgb : ¬ g = wr.heap.size := by omega
        have HBW3 : Hid (Below wr.heap.size wr (w2.alloc (.cells #[.string rty, .string rcl, .string rna] 92)).drew) := (HB2.out.alloc HB2.out.size _).drew
        have HBB3 : Hid (Below w.heap.size w (w2.alloc (.cells #[.string rty, .string rcl, .string rna] 92)).drew) := below_trans HBR.out HBW3.out
        have hownI := HACTS.out.own i hi
        rw [HEV.out] at hownI
        have HOB : Hid (∀ g', (Value.slice oi ni ci).ownBlock = some g' → w.heap.size ≤ g' ∧ g' < wr.heap.size ∧ g' ≠ g ∧ g' ≠ w.heap.size) := fun g' e => by
          have h5 := hownI.lt e
          have h6 := HACTS.out.row i hi g' (by rw [HEV.out]; exact e)
          exact ⟨h5.1, h5.2, fun e' => h6.1 (by rw [e']; rfl), h6.2⟩
        have HOWN3 : Hid (OwnStr w.heap.size (w2.alloc (.cells #[.string rty, .string rcl, .string rna] 92)).drew (.slice oi ni ci) (rd M i).acts) := hownI.move fun g' e => HBW3.out.block g' (hownI.lt e).2
        have HSRC3 : Hid (StrAt (w2.alloc (.cells #[.string rty, .string rcl, .string rna] 92)).drew (.slice o3 n3 c3) racts) := HS0.out.below HBB3.out
        have HBS3 : Hid (w.heap.size ≤ (w2.alloc (.cells #[.string rty, .string rcl, .string rna] 92)).drew.heap.size) := HBB3.out.size
        have HLEN : Hid ((rd M i).acts.length + racts.length ≤ 4398046511104) := by
          show (rd M i).acts.length + racts.length ≤ 4398046511104
          have := HL3.out
          have h7 : k * 1048576 ≤ 1048576 * 1048576 := Nat.mul_le_mul_right _ (by omega)
          rw [HNI.out]
          omega
        have HQ3 : Hid ((w2.alloc (.cells #[.string rty, .string rcl, .string rna] 92)).drew.cell? ⟨wr.heap.size, 3, none⟩ = some (.slice o3 n3 c3)) := Lib.cell?_alloc_some _ q3
        have HROW3 : Hid (MRow w.heap.size (w2.alloc (.cells #[.string rty, .string rcl, .string rna] 92)).drew (.slice (some ⟨g, 0, none⟩) M.length cap) M vf) := MRow.move HROW.out fun g' e => HBW3.out.block g' (MRow.lt HROW.out e).2
        have HFZ3 : Hid _ := (HROW3.out.cell hi).2
        have HLT3 : Hid (wr.heap.size < (w2.alloc (.cells #[.string rty, .string rcl, .string rna] 92)).drew.heap.size) := World.block_lt_of_cell? _ _ HQ3.out
        have hd3a : (w2.alloc (.cells #[.string rty, .string rcl, .string rna] 92)).cell? ⟨g, i * 4 + 3, none⟩ = some (.slice oi ni ci) := Lib.cell?_alloc_some _ hd3
        have q3a : (w2.alloc (.cells #[.string rty, .string rcl, .string rna] 92)).cell? ⟨wr.heap.size, 3, none⟩ = some (.slice o3 n3 c3) := Lib.cell?_alloc_some _ q3
        clear hownI q0 q1 q2
        go_region_law
          ((refine step_append_strs (by rfl) _ _ (by rfl) w.heap.size (.slice oi ni ci) (.slice o3 n3 c3) (rd M i).acts racts (by rfl) (by rfl) HOWN3.out HSRC3.out HLEN.out HBS3.out ?_; intro o' n' c' w4 hn' hown4 hgrow4 hat4; have hS1 : w4.cell? ⟨wr.heap.size, 3, none⟩ = some (.slice o3 n3 c3) := hgrow4.cell HQ3.out (fun e => absurd (HOB.out _ e.symm).2.1 (Nat.lt_irrefl _)); have hgg : some g ≠ (Value.slice oi ni ci).ownBlock := (fun e => (HOB.out g e.symm).2.2.1 rfl); have hd4 : w4.cell? ⟨g, i * 4 + 3, none⟩ = some (.slice oi ni ci) := hgrow4.cell (Lib.cell?_alloc_some _ hd3) hgg; have hf4 : ∀ j, w4.frozen? ⟨g, j, none⟩ = false := (fun j => (hgrow4.frozen_far ⟨g, j, none⟩ (Nat.lt_trans hgl HLT3.out) hgg).trans (HFZ3.out j)); have HN4 : Hid _ := hn'; have HOWN4 : Hid _ := hown4; have HGROW4 : Hid _ := hgrow4; have HAT4 : Hid _ := hat4; clear hn' hown4 hgrow4 hat4 hgg))
        all_goals
          have HMST : Hid (MSt w.heap.size w.heap.size (w4.setCell ⟨g, i * 4 + 3, none⟩ (.slice o' n' c')) (.slice (some ⟨g, 0, none⟩) m cap) (mergeStep M ⟨rty, rcl, rna, racts⟩)) := by
            have := mst_merge HROW3.out (HACTS.out.move fun j hj g' e => HBW3.out.block g' ((HACTS.out.own j hj).lt e).2) HVM'.out (Nat.lt_trans hbml HLT3.out) hi HSI.out HU.out (by rw [HEV.out]; exact HGROW4.out) HOWN4.out (by rw [HEV.out]; exact HAT4.out)
            rw [(step_hit hi HSI.out HU.out).1, HML.out] at this
            exact this
          have HMAP5 : Hid ((w4.setCell ⟨g, i * 4 + 3, none⟩ (.slice o' n' c')).ownsMap Tryd.prog 92 (plainElem Tryd.prog 3) w.heap.size (k + 1) D) :=
            (((HMAP.out.kept (below_grown HBW3.out none) (by simp)).kept HGROW4.out (fun e => (HOB.out _ e.symm).2.2.2 rfl)).kept (grown_set (grown_refl _ _) (i * 4 + 3) (.slice o' n' c')) (fun e => HVM'.out (Option.some.inj e).symm)).mono (Nat.le_succ _)
          have HB5 : Hid (Below w.heap.size w (w4.setCell ⟨g, i * 4 + 3, none⟩ (.slice o' n' c'))) := (below_grow HBB3.out HGROW4.out HBS3.out (fun k' e => (HOB.out k' e).1)).setCell hbg _
          clear hS1 hd4 hf4 hd3 q3 q4 e0 e1 e2 e3 hd3a q3a
          go_wp2
          go_roundw
          case rel => exact ⟨k + 1, D, by omega, by go_num, by rw [HSTEP.out]; exact HMST.out, by rw [HSTEP.out]; exact HTIE.out.hit hi HSI.out HU.out, HMAP5.out, HB5.out⟩
          case measure => simp [intOf]; omega
    · obtain rfl : k = n := by omega
      obtain ⟨o', c', ev⟩ := (let ⟨_, h, _⟩ := hst; h.form : ∃ o c, _ = Value.slice o _ c)
      have HSL : Hid _ := hst.sl
      clear hst htie hmap
      subst ev
      go_wp2
      go_ret
      exact ⟨_, rfl, HSL.out, hb⟩
end Go.Proofs.Qxb6601693aDoor
