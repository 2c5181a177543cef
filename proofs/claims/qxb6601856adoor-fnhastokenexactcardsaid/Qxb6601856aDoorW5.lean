import Derived.Test.Qxb6601856aDoorW2
namespace Go.Proofs.Qxb6601856aDoor
open Go.RowKit

theorem piece_at {l : List UInt8} {st i j : Nat} (h : st + j < i) : at0 ((l.drop st).take (i - st)) j = at0 l (st + j) := by
  rw [at0_take _ _ _ (by omega), at0_drop]
theorem piece_trim {l : List UInt8} {st i lo hi : Nat} (hsl : st ≤ lo) (hlh : lo ≤ hi) (hhi : hi ≤ i) (hil : i ≤ l.length) (HL : ∀ j, st ≤ j → j < lo → wsI (at0 l j) = true) (HR : ∀ j, hi ≤ j → j < i → wsI (at0 l j) = true) (he : lo = hi ∨ (wsI (at0 l lo) = false ∧ wsI (at0 l (hi - 1)) = false)) :
    Lib.trimS ((l.drop st).take (i - st)) [32, 9] = (l.take hi).drop lo := by
  have hlen : ((l.drop st).take (i - st)).length = i - st := by rw [List.length_take, List.length_drop]; omega
  rw [trim_eq (l := (l.drop st).take (i - st)) (lo := lo - st) (hi := hi - st) (by omega) (by rw [hlen]; omega)
    (fun j hj => by rw [piece_at (by omega)]; exact HL (st + j) (by omega) (by omega))
    (fun j h1 h2 => by rw [hlen] at h2; rw [piece_at (by omega)]; exact HR (st + j) (by omega) (by omega))
    (by
      rcases he with rfl | ⟨e1, e2⟩
      · exact .inl rfl
      · by_cases hlh' : lo = hi
        · exact .inl (by rw [hlh'])
        · refine .inr ⟨?_, ?_⟩
          · rw [piece_at (by omega), show st + (lo - st) = lo by omega]; exact e1
          · rw [piece_at (by omega), show st + (hi - st - 1) = hi - 1 by omega]; exact e2)]
  rw [List.take_take, Nat.min_eq_left (by omega), ← List.drop_take, List.drop_drop]
  congr 2 <;> omega
theorem own_bytes {w : World} {B n : Nat} {l : List UInt8} (hc : ∀ j, j < n → w.cell? ⟨B, j, none⟩ = some (.int .u8 (at0 l j))) {lo hi : Nat} (hhi : hi ≤ n) : Lib.BytesAt w (some ⟨B, lo, none⟩) (hi - lo) ((l.take hi).drop lo) := fun h0 => by
  refine ⟨B, lo, rfl, fun i hi' => ?_⟩
  rw [hc (lo + i) (by omega), ← at0_take l hi (lo + i) (by omega), ← at0_drop]
  rfl

set_option maxHeartbeats 4000000 in
set_option maxRecDepth 100000 in
theorem model_own (B n : Nat) (l : List UInt8) (t : ByteArray) (w : World) (HLEN : Hid (l.length = n)) (HC : Hid (∀ j, j < n → w.cell? ⟨B, j, none⟩ = some (.int .u8 (at0 l j)))) (hn : n ≤ 524288) (ht : t.size ≤ 524288) :
    Calls Tryd.prog 9 #[.slice (some ⟨B, 0, none⟩) n n, .string t] w fun e w' => e = .returned (.bool (tokL t.data.toList l)) ∧ w' = w := by
  go_enter Tryd.func9, Tryd.ntmps9
  go_wp2
  go_loop [5, 6] (fun a b => ∃ st i : Nat, st ≤ i ∧ i ≤ n + 1 ∧ a = .int .i64 st ∧ b = .int .i64 i ∧ (i ≤ n → (∀ j, st ≤ j → j < i → at0 l j ≠ 44) ∧ tokL t.data.toList (l.drop st) = tokL t.data.toList l) ∧ (i = n + 1 → tokL t.data.toList l = false)) (fun _ b => n + 1 - (intOf b).toNat)
  case atStart => exact ⟨0, 0, Nat.le_refl _, by omega, rfl, rfl, fun _ => ⟨fun j h1 h2 => by omega, rfl⟩, fun e => by omega⟩
  case round =>
    obtain ⟨st, i, hsi, hin, rfl, rfl, hinv, hend⟩ := hrel
    by_cases hile : i ≤ n
    · obtain ⟨hno, htok⟩ := hinv hile
      have HNO : Hid (∀ j, st ≤ j → j < i → at0 l j ≠ 44) := hno
      have HTOK : Hid (tokL t.data.toList (l.drop st) = tokL t.data.toList l) := htok
      have hil : i ≤ l.length := by rw [HLEN.out]; exact hile
      clear hinv hend hno htok
      by_cases hlt : i < n
      · have hci := HC.out i hlt
        by_cases hcm : at0 l i = 44
        · have HHIT : Hid (tokL t.data.toList (l.drop st) = (P t.data.toList ((l.drop st).take (i - st)) || tokL t.data.toList (l.drop (i + 1)))) := by
            show _ = _
            have e := tokL_hit (t := t.data.toList) (l := l.drop st) (i := i - st) (fun e => by have := congrArg List.length e; rw [List.length_drop, HLEN.out] at this; simp at this; omega)
              (index_comma (by rw [List.length_drop, HLEN.out]; omega) (by rw [at0_drop, show st + (i - st) = i by omega]; exact hcm) (fun j hj => by rw [at0_drop]; exact HNO.out (st + j) (by omega) (by omega)))
            rw [List.drop_drop, show st + (i - st + 1) = i + 1 by omega] at e
            exact e
          rw [hcm] at hci
          go_wp2
          go_loop [7] (fun v => ∃ lo : Nat, st ≤ lo ∧ lo ≤ i ∧ v = .int .i64 lo ∧ ∀ j, st ≤ j → j < lo → wsI (at0 l j) = true) (fun v => i - (intOf v).toNat)
          case atStart => exact ⟨st, Nat.le_refl _, hsi, rfl, fun j h1 h2 => by omega⟩
          case round =>
            obtain ⟨lo, hsl, hli, rfl, hws⟩ := hrel
            have HLO : Hid (∀ j, st ≤ j → j < lo → wsI (at0 l j) = true) := hws
            clear hws
            by_cases hlo : lo < i
            · have hclo := HC.out lo (by omega)
              cases hwv : wsI (at0 l lo)
              · have hwsA := fun wx => isWS_any (at0 l lo) wx
                rw [hwv] at hwsA
                have HWL : Hid (wsI (at0 l lo) = false) := hwv
                clear hwv
                go_wp2_with (first | (go_at_call 13; refine (hwsA _).mono ?_; rintro e w ⟨rfl, rfl⟩))
                go_loop [8] (fun v => ∃ hi : Nat, lo ≤ hi ∧ hi ≤ i ∧ v = .int .i64 hi ∧ ∀ j, hi ≤ j → j < i → wsI (at0 l j) = true) (fun v => (intOf v).toNat - lo)
                case atStart => exact ⟨i, by omega, Nat.le_refl _, rfl, fun j h1 h2 => by omega⟩
                case round =>
                  obtain ⟨hi, hlh, hhi, rfl, hws⟩ := hrel
                  have HHI : Hid (∀ j, hi ≤ j → j < i → wsI (at0 l j) = true) := hws
                  clear hws
                  by_cases hgt : lo < hi
                  · obtain ⟨h', rfl⟩ : ∃ h', hi = h' + 1 := ⟨hi - 1, by omega⟩
                    have hch := HC.out h' (by omega)
                    cases hwv : wsI (at0 l h')
                    · have hwsB := fun wx => isWS_any (at0 l h') wx
                      rw [hwv] at hwsB
                      have HEX : Hid (lo = h' + 1 ∨ (wsI (at0 l lo) = false ∧ wsI (at0 l (h' + 1 - 1)) = false)) := .inr ⟨HWL.out, hwv⟩
                      clear hwv
                      have HPIECE : Hid (Lib.trimS ((l.drop st).take (i - st)) [32, 9] = (l.take (h' + 1)).drop lo) := piece_trim hsl hlh hhi hil HLO.out HHI.out HEX.out
                      have hbl : ((l.take (h' + 1)).drop lo).length = (h' + 1) - lo := by rw [List.length_drop, List.length_take, HLEN.out]; omega
                      cases hP : P t.data.toList ((l.drop st).take (i - st))
                      · have hP' : foldB ((l.take (h' + 1)).drop lo) t.data.toList = false := by rw [← HPIECE.out]; exact hP
                        have HF : Hid (tokL t.data.toList (l.drop (i + 1)) = tokL t.data.toList l) := by
                          show tokL t.data.toList (l.drop (i + 1)) = tokL t.data.toList l
                          rw [← HTOK.out, HHIT.out, hP]; rfl
                        clear hP
                        have hsf := fun c' => sameFold_any (some ⟨B, lo, none⟩) (h' + 1 - lo) c' ((l.take (h' + 1)).drop lo) t w hbl (own_bytes HC.out (by omega)) (by omega) (by omega)
                        rw [hP'] at hsf
                        go_wp2_with (first
                          | (go_at_call 13; refine (hwsB _).mono ?_; rintro e w ⟨rfl, rfl⟩)
                          | (go_at_call 14; refine (hsf _).mono ?_; rintro e w ⟨rfl, rfl⟩))
                        go_round
                        case rel => exact ⟨i + 1, i + 1, Nat.le_refl _, by omega, by go_num, by go_num, fun _ => ⟨fun j h1 h2 => by omega, HF.out⟩, fun e => by omega⟩
                        case measure => first | (simp [intOf]; done) | (simp [intOf]; omega)
                      · have hP' : foldB ((l.take (h' + 1)).drop lo) t.data.toList = true := by rw [← HPIECE.out]; exact hP
                        have HF : Hid (tokL t.data.toList l = true) := by
                          show tokL t.data.toList l = true
                          rw [← HTOK.out, HHIT.out, hP]; rfl
                        clear hP
                        have hsf := fun c' => sameFold_any (some ⟨B, lo, none⟩) (h' + 1 - lo) c' ((l.take (h' + 1)).drop lo) t w hbl (own_bytes HC.out (by omega)) (by omega) (by omega)
                        rw [hP'] at hsf
                        go_wp2_with (first
                          | (go_at_call 13; refine (hwsB _).mono ?_; rintro e w ⟨rfl, rfl⟩)
                          | (go_at_call 14; refine (hsf _).mono ?_; rintro e w ⟨rfl, rfl⟩))
                        try go_ret
                        exact ⟨ret_bool HF.out.symm, rfl⟩
                    · have hwsB := fun wx => isWS_any (at0 l h') wx
                      rw [hwv] at hwsB
                      have HWV : Hid (wsI (at0 l h') = true) := hwv
                      clear hwv
                      go_wp2_with (first | (go_at_call 13; refine (hwsB _).mono ?_; rintro e w ⟨rfl, rfl⟩))
                      go_round
                      case rel =>
                        refine ⟨h', by omega, by omega, by go_num, fun j h1 h2 => ?_⟩
                        by_cases e : j = h'
                        · rw [e]; exact HWV.out
                        · exact HHI.out j (by omega) h2
                      case measure => first | (simp [intOf]; done) | (simp [intOf]; omega)
                  · obtain rfl : hi = lo := by omega
                    exact absurd (HHI.out hi (Nat.le_refl _) hlo) (by rw [HWL.out]; exact Bool.false_ne_true)
              · have hwsA := fun wx => isWS_any (at0 l lo) wx
                rw [hwv] at hwsA
                have HWV : Hid (wsI (at0 l lo) = true) := hwv
                clear hwv
                go_wp2_with (first | (go_at_call 13; refine (hwsA _).mono ?_; rintro e w ⟨rfl, rfl⟩))
                go_round
                case rel =>
                  refine ⟨lo + 1, by omega, by omega, by go_num, fun j h1 h2 => ?_⟩
                  by_cases e : j = lo
                  · rw [e]; exact HWV.out
                  · exact HLO.out j h1 (by omega)
                case measure => first | (simp [intOf]; done) | (simp [intOf]; omega)
            · obtain rfl : lo = i := by omega
              go_wp2
              go_loop [8] (fun v => v = .int .i64 lo) (fun _ => 0)
              case atStart => rfl
              case round =>
                subst hrel
                have HHI : Hid (∀ j, lo ≤ j → j < lo → wsI (at0 l j) = true) := fun j h1 h2 => by omega
                have hli' : lo ≤ lo := Nat.le_refl _
                by_cases hln : lo = n
                · have hln' := hln
                  have HPIECE : Hid (Lib.trimS ((l.drop st).take (lo - st)) [32, 9] = (l.take lo).drop lo) := piece_trim hsl (Nat.le_refl _) hli' hil HLO.out HHI.out (.inl rfl)
                  have hbl : ((l.take lo).drop lo).length = lo - lo := by rw [List.length_drop, List.length_take, HLEN.out]; omega
                  cases hP : P t.data.toList ((l.drop st).take (lo - st))
                  · have hP' : foldB ((l.take lo).drop lo) t.data.toList = false := by rw [← HPIECE.out]; exact hP
                    have HF : Hid (tokL t.data.toList (l.drop (lo + 1)) = tokL t.data.toList l) := by
                      show tokL t.data.toList (l.drop (lo + 1)) = tokL t.data.toList l
                      rw [← HTOK.out, HHIT.out, hP]; rfl
                    clear hP
                    have hsf : ∀ p c', Calls Tryd.prog 14 #[.slice p 0 c', .string t] w fun e w' => e = .returned (.bool (foldB ((l.take lo).drop lo) t.data.toList)) ∧ w' = w := fun p c' => sameFold_any p 0 c' _ t w (by rw [hbl]; omega) (fun h => absurd h (Nat.lt_irrefl _)) (by omega) (by omega)
                    have hsf' : ∀ p c', Calls Tryd.prog 14 #[.slice p (lo - lo) c', .string t] w fun e w' => e = .returned (.bool (foldB ((l.take lo).drop lo) t.data.toList)) ∧ w' = w := fun p c' => by rw [Nat.sub_self]; exact hsf p c'
                    rw [hP'] at hsf hsf'
                    go_wp2_with (first
                      | (go_at_call 14; refine (hsf _ _).mono ?_; rintro e w ⟨rfl, rfl⟩)
                      | (go_at_call 14; refine (hsf' _ _).mono ?_; rintro e w ⟨rfl, rfl⟩))
                    go_round
                    case rel => exact ⟨lo + 1, lo + 1, Nat.le_refl _, by omega, by go_num, by go_num, fun _ => ⟨fun j h1 h2 => by omega, HF.out⟩, fun e => by omega⟩
                    case measure => first | (simp [intOf]; done) | (simp [intOf]; omega)
                  · have hP' : foldB ((l.take lo).drop lo) t.data.toList = true := by rw [← HPIECE.out]; exact hP
                    have HF : Hid (tokL t.data.toList l = true) := by
                      show tokL t.data.toList l = true
                      rw [← HTOK.out, HHIT.out, hP]; rfl
                    clear hP
                    have hsf : ∀ p c', Calls Tryd.prog 14 #[.slice p 0 c', .string t] w fun e w' => e = .returned (.bool (foldB ((l.take lo).drop lo) t.data.toList)) ∧ w' = w := fun p c' => sameFold_any p 0 c' _ t w (by rw [hbl]; omega) (fun h => absurd h (Nat.lt_irrefl _)) (by omega) (by omega)
                    have hsf' : ∀ p c', Calls Tryd.prog 14 #[.slice p (lo - lo) c', .string t] w fun e w' => e = .returned (.bool (foldB ((l.take lo).drop lo) t.data.toList)) ∧ w' = w := fun p c' => by rw [Nat.sub_self]; exact hsf p c'
                    rw [hP'] at hsf hsf'
                    go_wp2_with (first
                      | (go_at_call 14; refine (hsf _ _).mono ?_; rintro e w ⟨rfl, rfl⟩)
                      | (go_at_call 14; refine (hsf' _ _).mono ?_; rintro e w ⟨rfl, rfl⟩))
                    try go_ret
                    exact ⟨ret_bool HF.out.symm, rfl⟩
                · have hln' : ¬ n = lo := fun e => hln e.symm
                  have HPIECE : Hid (Lib.trimS ((l.drop st).take (lo - st)) [32, 9] = (l.take lo).drop lo) := piece_trim hsl (Nat.le_refl _) hli' hil HLO.out HHI.out (.inl rfl)
                  have hbl : ((l.take lo).drop lo).length = lo - lo := by rw [List.length_drop, List.length_take, HLEN.out]; omega
                  cases hP : P t.data.toList ((l.drop st).take (lo - st))
                  · have hP' : foldB ((l.take lo).drop lo) t.data.toList = false := by rw [← HPIECE.out]; exact hP
                    have HF : Hid (tokL t.data.toList (l.drop (lo + 1)) = tokL t.data.toList l) := by
                      show tokL t.data.toList (l.drop (lo + 1)) = tokL t.data.toList l
                      rw [← HTOK.out, HHIT.out, hP]; rfl
                    clear hP
                    have hsf : ∀ p c', Calls Tryd.prog 14 #[.slice p 0 c', .string t] w fun e w' => e = .returned (.bool (foldB ((l.take lo).drop lo) t.data.toList)) ∧ w' = w := fun p c' => sameFold_any p 0 c' _ t w (by rw [hbl]; omega) (fun h => absurd h (Nat.lt_irrefl _)) (by omega) (by omega)
                    have hsf' : ∀ p c', Calls Tryd.prog 14 #[.slice p (lo - lo) c', .string t] w fun e w' => e = .returned (.bool (foldB ((l.take lo).drop lo) t.data.toList)) ∧ w' = w := fun p c' => by rw [Nat.sub_self]; exact hsf p c'
                    rw [hP'] at hsf hsf'
                    go_wp2_with (first
                      | (go_at_call 14; refine (hsf _ _).mono ?_; rintro e w ⟨rfl, rfl⟩)
                      | (go_at_call 14; refine (hsf' _ _).mono ?_; rintro e w ⟨rfl, rfl⟩))
                    go_round
                    case rel => exact ⟨lo + 1, lo + 1, Nat.le_refl _, by omega, by go_num, by go_num, fun _ => ⟨fun j h1 h2 => by omega, HF.out⟩, fun e => by omega⟩
                    case measure => first | (simp [intOf]; done) | (simp [intOf]; omega)
                  · have hP' : foldB ((l.take lo).drop lo) t.data.toList = true := by rw [← HPIECE.out]; exact hP
                    have HF : Hid (tokL t.data.toList l = true) := by
                      show tokL t.data.toList l = true
                      rw [← HTOK.out, HHIT.out, hP]; rfl
                    clear hP
                    have hsf : ∀ p c', Calls Tryd.prog 14 #[.slice p 0 c', .string t] w fun e w' => e = .returned (.bool (foldB ((l.take lo).drop lo) t.data.toList)) ∧ w' = w := fun p c' => sameFold_any p 0 c' _ t w (by rw [hbl]; omega) (fun h => absurd h (Nat.lt_irrefl _)) (by omega) (by omega)
                    have hsf' : ∀ p c', Calls Tryd.prog 14 #[.slice p (lo - lo) c', .string t] w fun e w' => e = .returned (.bool (foldB ((l.take lo).drop lo) t.data.toList)) ∧ w' = w := fun p c' => by rw [Nat.sub_self]; exact hsf p c'
                    rw [hP'] at hsf hsf'
                    go_wp2_with (first
                      | (go_at_call 14; refine (hsf _ _).mono ?_; rintro e w ⟨rfl, rfl⟩)
                      | (go_at_call 14; refine (hsf' _ _).mono ?_; rintro e w ⟨rfl, rfl⟩))
                    try go_ret
                    exact ⟨ret_bool HF.out.symm, rfl⟩
        · have hcm' : (at0 l i != 44) = true := by simpa using hcm
          have HCM : Hid (at0 l i ≠ 44) := hcm
          clear hcm
          go_wp2
          go_round
          case rel =>
            refine ⟨st, i + 1, by omega, by omega, rfl, by go_num, fun _ => ⟨fun j h1 h2 => ?_, HTOK.out⟩, fun e => by omega⟩
            by_cases e : j = i
            · rw [e]; exact HCM.out
            · exact HNO.out j h1 (by omega)
          case measure => simp [intOf]; omega
      · obtain rfl : i = n := by omega
        by_cases hst : st = i
        · subst hst
          go_wp2
          go_ret
          refine ⟨ret_bool ?_, rfl⟩
          rw [← HTOK.out, List.drop_eq_nil_of_le (by rw [HLEN.out]; exact Nat.le_refl _), tokL_nil]
        · have hst' : ((i : Int) == (st : Int)) = false := by rw [beq_eq_false_iff_ne]; omega
          have HHIT : Hid (tokL t.data.toList (l.drop st) = P t.data.toList ((l.drop st).take (i - st))) := by
            show _ = _
            rw [List.take_of_length_le (by rw [List.length_drop, HLEN.out]; exact Nat.le_refl _)]
            refine tokL_last (fun e => by have := congrArg List.length e; rw [List.length_drop, HLEN.out] at this; simp at this; omega) ?_
            rw [index_no (fun j hj => by rw [List.length_drop, HLEN.out] at hj; rw [at0_drop]; exact HNO.out (st + j) (by omega) (by omega))]
            decide
          go_wp2
          go_loop [7] (fun v => ∃ lo : Nat, st ≤ lo ∧ lo ≤ i ∧ v = .int .i64 lo ∧ ∀ j, st ≤ j → j < lo → wsI (at0 l j) = true) (fun v => i - (intOf v).toNat)
          case atStart => exact ⟨st, Nat.le_refl _, hsi, rfl, fun j h1 h2 => by omega⟩
          case round =>
            obtain ⟨lo, hsl, hli, rfl, hws⟩ := hrel
            have HLO : Hid (∀ j, st ≤ j → j < lo → wsI (at0 l j) = true) := hws
            clear hws
            by_cases hlo : lo < i
            · have hclo := HC.out lo (by omega)
              cases hwv : wsI (at0 l lo)
              · have hwsA := fun wx => isWS_any (at0 l lo) wx
                rw [hwv] at hwsA
                have HWL : Hid (wsI (at0 l lo) = false) := hwv
                clear hwv
                go_wp2_with (first | (go_at_call 13; refine (hwsA _).mono ?_; rintro e w ⟨rfl, rfl⟩))
                go_loop [8] (fun v => ∃ hi : Nat, lo ≤ hi ∧ hi ≤ i ∧ v = .int .i64 hi ∧ ∀ j, hi ≤ j → j < i → wsI (at0 l j) = true) (fun v => (intOf v).toNat - lo)
                case atStart => exact ⟨i, by omega, Nat.le_refl _, rfl, fun j h1 h2 => by omega⟩
                case round =>
                  obtain ⟨hi, hlh, hhi, rfl, hws⟩ := hrel
                  have HHI : Hid (∀ j, hi ≤ j → j < i → wsI (at0 l j) = true) := hws
                  clear hws
                  by_cases hgt : lo < hi
                  · obtain ⟨h', rfl⟩ : ∃ h', hi = h' + 1 := ⟨hi - 1, by omega⟩
                    have hch := HC.out h' (by omega)
                    cases hwv : wsI (at0 l h')
                    · have hwsB := fun wx => isWS_any (at0 l h') wx
                      rw [hwv] at hwsB
                      have HEX : Hid (lo = h' + 1 ∨ (wsI (at0 l lo) = false ∧ wsI (at0 l (h' + 1 - 1)) = false)) := .inr ⟨HWL.out, hwv⟩
                      clear hwv
                      have HPIECE : Hid (Lib.trimS ((l.drop st).take (i - st)) [32, 9] = (l.take (h' + 1)).drop lo) := piece_trim hsl hlh hhi hil HLO.out HHI.out HEX.out
                      have hbl : ((l.take (h' + 1)).drop lo).length = (h' + 1) - lo := by rw [List.length_drop, List.length_take, HLEN.out]; omega
                      cases hP : P t.data.toList ((l.drop st).take (i - st))
                      · have hP' : foldB ((l.take (h' + 1)).drop lo) t.data.toList = false := by rw [← HPIECE.out]; exact hP
                        have HF : Hid (tokL t.data.toList l = false) := by
                          show tokL t.data.toList l = false
                          rw [← HTOK.out, HHIT.out, hP]
                        clear hP
                        have hsf := fun c' => sameFold_any (some ⟨B, lo, none⟩) (h' + 1 - lo) c' ((l.take (h' + 1)).drop lo) t w hbl (own_bytes HC.out (by omega)) (by omega) (by omega)
                        rw [hP'] at hsf
                        go_wp2_with (first
                          | (go_at_call 13; refine (hwsB _).mono ?_; rintro e w ⟨rfl, rfl⟩)
                          | (go_at_call 14; refine (hsf _).mono ?_; rintro e w ⟨rfl, rfl⟩))
                        go_round
                        case rel => exact ⟨i + 1, i + 1, Nat.le_refl _, by omega, by go_num, by go_num, fun e => by omega, fun _ => HF.out⟩
                        case measure => first | (simp [intOf]; done) | (simp [intOf]; omega)
                      · have hP' : foldB ((l.take (h' + 1)).drop lo) t.data.toList = true := by rw [← HPIECE.out]; exact hP
                        have HF : Hid (tokL t.data.toList l = true) := by
                          show tokL t.data.toList l = true
                          rw [← HTOK.out, HHIT.out, hP]
                        clear hP
                        have hsf := fun c' => sameFold_any (some ⟨B, lo, none⟩) (h' + 1 - lo) c' ((l.take (h' + 1)).drop lo) t w hbl (own_bytes HC.out (by omega)) (by omega) (by omega)
                        rw [hP'] at hsf
                        go_wp2_with (first
                          | (go_at_call 13; refine (hwsB _).mono ?_; rintro e w ⟨rfl, rfl⟩)
                          | (go_at_call 14; refine (hsf _).mono ?_; rintro e w ⟨rfl, rfl⟩))
                        try go_ret
                        exact ⟨ret_bool HF.out.symm, rfl⟩
                    · have hwsB := fun wx => isWS_any (at0 l h') wx
                      rw [hwv] at hwsB
                      have HWV : Hid (wsI (at0 l h') = true) := hwv
                      clear hwv
                      go_wp2_with (first | (go_at_call 13; refine (hwsB _).mono ?_; rintro e w ⟨rfl, rfl⟩))
                      go_round
                      case rel =>
                        refine ⟨h', by omega, by omega, by go_num, fun j h1 h2 => ?_⟩
                        by_cases e : j = h'
                        · rw [e]; exact HWV.out
                        · exact HHI.out j (by omega) h2
                      case measure => first | (simp [intOf]; done) | (simp [intOf]; omega)
                  · obtain rfl : hi = lo := by omega
                    exact absurd (HHI.out hi (Nat.le_refl _) hlo) (by rw [HWL.out]; exact Bool.false_ne_true)
              · have hwsA := fun wx => isWS_any (at0 l lo) wx
                rw [hwv] at hwsA
                have HWV : Hid (wsI (at0 l lo) = true) := hwv
                clear hwv
                go_wp2_with (first | (go_at_call 13; refine (hwsA _).mono ?_; rintro e w ⟨rfl, rfl⟩))
                go_round
                case rel =>
                  refine ⟨lo + 1, by omega, by omega, by go_num, fun j h1 h2 => ?_⟩
                  by_cases e : j = lo
                  · rw [e]; exact HWV.out
                  · exact HLO.out j h1 (by omega)
                case measure => first | (simp [intOf]; done) | (simp [intOf]; omega)
            · obtain rfl : lo = i := by omega
              go_wp2
              go_loop [8] (fun v => v = .int .i64 lo) (fun _ => 0)
              case atStart => rfl
              case round =>
                subst hrel
                have HHI : Hid (∀ j, lo ≤ j → j < lo → wsI (at0 l j) = true) := fun j h1 h2 => by omega
                have hli' : lo ≤ lo := Nat.le_refl _
                have HPIECE : Hid (Lib.trimS ((l.drop st).take (lo - st)) [32, 9] = (l.take lo).drop lo) := piece_trim hsl (Nat.le_refl _) hli' hil HLO.out HHI.out (.inl rfl)
                have hbl : ((l.take lo).drop lo).length = lo - lo := by rw [List.length_drop, List.length_take, HLEN.out]; omega
                cases hP : P t.data.toList ((l.drop st).take (lo - st))
                · have hP' : foldB ((l.take lo).drop lo) t.data.toList = false := by rw [← HPIECE.out]; exact hP
                  have HF : Hid (tokL t.data.toList l = false) := by
                    show tokL t.data.toList l = false
                    rw [← HTOK.out, HHIT.out, hP]
                  clear hP
                  have hsf : ∀ p c', Calls Tryd.prog 14 #[.slice p 0 c', .string t] w fun e w' => e = .returned (.bool (foldB ((l.take lo).drop lo) t.data.toList)) ∧ w' = w := fun p c' => sameFold_any p 0 c' _ t w (by rw [hbl]; omega) (fun h => absurd h (Nat.lt_irrefl _)) (by omega) (by omega)
                  have hsf' : ∀ p c', Calls Tryd.prog 14 #[.slice p (lo - lo) c', .string t] w fun e w' => e = .returned (.bool (foldB ((l.take lo).drop lo) t.data.toList)) ∧ w' = w := fun p c' => by rw [Nat.sub_self]; exact hsf p c'
                  rw [hP'] at hsf hsf'
                  go_wp2_with (first
                    | (go_at_call 14; refine (hsf _ _).mono ?_; rintro e w ⟨rfl, rfl⟩)
                    | (go_at_call 14; refine (hsf' _ _).mono ?_; rintro e w ⟨rfl, rfl⟩))
                  go_round
                  case rel => exact ⟨lo + 1, lo + 1, Nat.le_refl _, by omega, by go_num, by go_num, fun e => by omega, fun _ => HF.out⟩
                  case measure => first | (simp [intOf]; done) | (simp [intOf]; omega)
                · have hP' : foldB ((l.take lo).drop lo) t.data.toList = true := by rw [← HPIECE.out]; exact hP
                  have HF : Hid (tokL t.data.toList l = true) := by
                    show tokL t.data.toList l = true
                    rw [← HTOK.out, HHIT.out, hP]
                  clear hP
                  have hsf : ∀ p c', Calls Tryd.prog 14 #[.slice p 0 c', .string t] w fun e w' => e = .returned (.bool (foldB ((l.take lo).drop lo) t.data.toList)) ∧ w' = w := fun p c' => sameFold_any p 0 c' _ t w (by rw [hbl]; omega) (fun h => absurd h (Nat.lt_irrefl _)) (by omega) (by omega)
                  have hsf' : ∀ p c', Calls Tryd.prog 14 #[.slice p (lo - lo) c', .string t] w fun e w' => e = .returned (.bool (foldB ((l.take lo).drop lo) t.data.toList)) ∧ w' = w := fun p c' => by rw [Nat.sub_self]; exact hsf p c'
                  rw [hP'] at hsf hsf'
                  go_wp2_with (first
                    | (go_at_call 14; refine (hsf _ _).mono ?_; rintro e w ⟨rfl, rfl⟩)
                    | (go_at_call 14; refine (hsf' _ _).mono ?_; rintro e w ⟨rfl, rfl⟩))
                  try go_ret
                  exact ⟨ret_bool HF.out.symm, rfl⟩
    · obtain rfl : i = n + 1 := by omega
      have HZ : Hid (tokL t.data.toList l = false) := hend rfl
      clear hinv hend
      go_wp2
      go_ret
      exact ⟨ret_bool HZ.out.symm, rfl⟩
end Go.Proofs.Qxb6601856aDoor
