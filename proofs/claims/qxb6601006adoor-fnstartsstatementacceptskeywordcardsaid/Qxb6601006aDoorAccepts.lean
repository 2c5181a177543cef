import Derived.Test.Qxb6601006aDoorTie
import Derived.Test.Qxb6601006aDoorCards
import Derived.Test.Qxb6601006aDoorW9
import Derived.Test.Qxb6601006aDoorWrap
import Derived.ProofKit
import Derived.OpenShut
import Derived.LaidMore
import Derived.Lay
import Derived.SevenTiedAt
import Derived.Stop.Joined
namespace Go.Proofs.Qxb6601006aDoor
open Go.ChangeShapes Go.WideShapes Go.ChangeAt Go.RowKit
open Go.ChangeMaps (open_string shut_string)

theorem own5 : ownKnob Tryd.prog.godebug = none := by kernel_rfl

set_option maxRecDepth 100000 in
theorem accepts_lifted (os : Os) (started : os.Started) (H : Type) (enc : TypeId × Value → H) :
    ReturnsInHanded {} Tryd.checked os 5 .any (fun w args => (Rows.fnStartsStatementAcceptsKeywordSpec.pre enc Tryd.prog Tryd.f5 Rows.fnStartsStatementAcceptsKeywordRow.domain false w args ∧ laidMetH Tryd.prog Rows.fnStartsStatementAcceptsKeywordRow.laid w) ∧ sizedMet enc Tryd.prog Tryd.f5 (OpenSpec.ofChange Rows.fnStartsStatementAcceptsKeywordSpec) false w args)
      (Rows.fnStartsStatementAcceptsKeywordSpec.post enc Tryd.prog Tryd.f5 false true false false) := by
  refine wrap_and_shaped (C := Tryd.checked) (X := fun w _ => laidMetH Tryd.prog Rows.fnStartsStatementAcceptsKeywordRow.laid w) (fun _ _ _ hh h => h.of_heap hh) own5 started (by kernel_rfl) Tryd.func5
    (ChangeSpec.witness_shaped (enc := enc) (C := Tryd.checked) (os := os) (X := fun w _ => laidMetH Tryd.prog Rows.fnStartsStatementAcceptsKeywordRow.laid w) false (World.laidAll Tryd.prog os Rows.fnStartsStatementAcceptsKeywordRow.laid) #[.string ⟨#[]⟩, .int .u8 0, .int .u8 0, .string ⟨#[]⟩] 8 (World.laidAll_os _ _ _)
      (World.shaped_of_ZipB (by kernel_rfl) (by kernel_rfl)) (by kernel_rfl) (by kernel_rfl) (by kernel_rfl)
      (by rw [MakeChecks.laidMetH_plain _ _ _ (by kernel_rfl)]; exact laidMet_laidAll _ (by kernel_rfl) (by kernel_rfl))) ?_
  intro W base args ds gs before hval0 hW _ _ _ hsh
  have hval : ∀ (j : Nat) t v, Tryd.f5.params[j]? = some t → args[j]? = some v → Value.okWide Tryd.prog W .any base t v := hval0
  have hW' := hW
  obtain ⟨p, q, hA0, hV, rfl, _, _⟩ := hW
  have hA : DataW.TrodAll enc Tryd.prog W 0 (fun _ => true) true Tryd.f5.params.toList args.toList ds p := hA0
  rw [Tryd.params5] at hA hval
  obtain ⟨v0, v1, v2, v3, d0, d1, d2, d3, p0, p1, p2, p3, rfl, rfl, rfl, h0, h1, h2, h3⟩ := trodAll_four hA
  obtain ⟨rfl, rfl⟩ := trodVars_none hV
  obtain ⟨s, rfl, rfl, rfl, hs⟩ := open_string Tryd.underlying9 (hval 0 9 v0 rfl rfl) h0
  obtain ⟨c, rfl, rfl, rfl, wc⟩ := open_int Tryd.underlying5 (hval 1 5 v1 rfl rfl) h1
  obtain ⟨m, rfl, rfl, rfl, wm⟩ := open_int Tryd.underlying5 (hval 2 5 v2 rfl rfl) h2
  obtain ⟨t, rfl, rfl, rfl, ht⟩ := open_string Tryd.underlying9 (hval 3 9 v3 rfl rfl) h3
  clear hA0 hval0
  simp only [List.append_nil] at hW'
  have bc := bounds_u8 wc
  have bm := bounds_u8 wm
  refine (accepts_any s t c m W hs ht bc.1 (by omega) bm.1 (by omega) hsh).mono fun e W' ⟨he, hnx⟩ => ?_
  subst he
  exact ⟨_, rfl, _, _, _, [], [], [], hW', trodAll_mk1 (shut_bool Tryd.underlying4 _), trodAll_mk4 (shut_string Tryd.underlying9 hs) (shut_int Tryd.underlying5 wc) (shut_int Tryd.underlying5 wm) (shut_string Tryd.underlying9 ht), rfl, hnx.frame _, fun h => by cases h⟩

theorem accepts_holds : Rows.FnStartsStatementAcceptsKeywordSaid :=
  OpenClaim.holds_of_wide 5 Tryd.f5 rfl rfl rfl rfl rfl rfl rfl ⟨rfl, rfl, rfl, rfl, rfl⟩ rfl rfl rfl rfl rfl (by kernel_rfl) Tryd.func5 (by kernel_rfl)
    (of_decide_eq_true (by kernel_rfl)) (by unfold Func.isWrapper; first | (rw [if_pos (by decide +kernel)]; kernel_rfl) | (rw [if_neg (by decide +kernel)]; exact ⟨rfl, rfl⟩))
    (fun os started H enc _ => accepts_lifted os started H enc)

theorem accepts_card : Rows.FnStartsStatementAcceptsKeywordCardSaid :=
  Claim7.holds_tied_plain_at .later [] [.data, .pinned] true (true, "c1fe9d6b66ebe26d1a6aa79aed32bf3975b90c059a3ed9cd22710a1f485c613c") false accepts_holds (fun _ h => by cases h) (by kernel_rfl) (fun _ h => by cases h) fnStartsStatementAcceptsKeyword_row_tie rfl ⟨rfl, rfl⟩ (by kernel_rfl) rfl
    (fun f fn hf hfn => by
      obtain rfl : f = 5 := Option.some.inj ((show Tryd.prog.funcNamed Rows.fnStartsStatementAcceptsKeywordRow.func = some 5 by kernel_rfl).symm.trans hf) |>.symm
      obtain rfl : fn = Tryd.f5 := (Option.some.inj (Tryd.func5.symm.trans hfn)).symm
      exact ⟨by kernel_rfl, fun j t ht => by
        rw [Tryd.params5] at ht
        have hm : t ∈ [9, 5, 5, 9] := by simpa using Array.mem_of_getElem? ht
        have hall : ([9, 5, 5, 9].all fun u => !Tryd.prog.wantsStandIn u) = true := by kernel_rfl
        exact (show Tryd.prog.wantsStandIn t = false by simpa using List.all_eq_true.1 hall t hm)⟩)
    (by kernel_rfl)
end Go.Proofs.Qxb6601006aDoor
