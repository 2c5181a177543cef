import Derived.Test.Qxb6601693aDoorTie
import Derived.Test.Qxb6601693aDoorCards
import Derived.Test.Qxb6601693aDoorE2
import Derived.Test.Qxb6601693aDoorF1
import Derived.Test.Qxb6601693aDoorWrap
import Derived.ProofKit
import Derived.OpenShut
import Derived.LaidMore
import Derived.Lay
import Derived.SevenTiedAt
import Derived.Stop.Joined
namespace Go.Proofs.Qxb6601693aDoor
open Go.ChangeShapes Go.WideShapes Go.ChangeAt Go.RowKit
open Go.ChangeMaps (open_string shut_string)

theorem Tryd.laidOut5 : laidOutB Tryd.prog = true := by kernel_rfl
theorem own5 : ownKnob Tryd.prog.godebug = none := by kernel_rfl

set_option maxRecDepth 100000 in
theorem grant_lifted (os : Os) (started : os.Started) (H : Type) (enc : TypeId × Value → H) :
    ReturnsInHanded {} Tryd.checked os 5 .any (fun w args => (Rows.fnGrantAgreesWithRuleByRuleModelSpec.pre enc Tryd.prog Tryd.f5 Rows.fnGrantAgreesWithRuleByRuleModelRow.domain false w args ∧ laidMetH Tryd.prog Rows.fnGrantAgreesWithRuleByRuleModelRow.laid w) ∧ sizedMet enc Tryd.prog Tryd.f5 (OpenSpec.ofChange Rows.fnGrantAgreesWithRuleByRuleModelSpec) false w args)
      (Rows.fnGrantAgreesWithRuleByRuleModelSpec.post enc Tryd.prog Tryd.f5 false true false false) := by
  refine wrap_and_shaped (C := Tryd.checked) (X := fun w _ => laidMetH Tryd.prog Rows.fnGrantAgreesWithRuleByRuleModelRow.laid w) (fun _ _ _ hh h => h.of_heap hh) own5 started (by kernel_rfl) Tryd.func5
    (ChangeSpec.witness_shaped (enc := enc) (C := Tryd.checked) (os := os) (X := fun w _ => laidMetH Tryd.prog Rows.fnGrantAgreesWithRuleByRuleModelRow.laid w) false (World.laidAll Tryd.prog os Rows.fnGrantAgreesWithRuleByRuleModelRow.laid) #[.slice none 0 0, .string ⟨#[]⟩, .slice none 0 0] 8 (World.laidAll_os _ _ _)
      (World.shaped_of_ZipB (by kernel_rfl) (by kernel_rfl)) (by kernel_rfl) (by kernel_rfl) (by kernel_rfl)
      (by rw [MakeChecks.laidMetH_plain _ _ _ (by kernel_rfl)]; exact laidMet_laidAll _ (by kernel_rfl) (by kernel_rfl))) ?_
  intro W base args ds gs before hval0 hW _ _ _ hsh
  have hval : ∀ (j : Nat) t v, Tryd.f5.params[j]? = some t → args[j]? = some v → Value.okWide Tryd.prog W .any base t v := hval0
  have hW' := hW
  obtain ⟨p, q, hA0, hV, rfl, _, _⟩ := hW
  have hA : DataW.TrodAll enc Tryd.prog W 0 (fun _ => true) true Tryd.f5.params.toList args.toList ds p := hA0
  rw [Tryd.params5] at hA hval
  obtain ⟨v0, v1, v2, d0, d1, d2, p0, p1, p2, rfl, rfl, rfl, h0, h1, h2⟩ := trodAll_three hA
  obtain ⟨rfl, rfl⟩ := trodVars_none hV
  obtain ⟨acc, rfl, rfl, rfl, hacc⟩ := open_string Tryd.underlying9 (hval 1 9 v1 rfl rfl) h1
  obtain ⟨a0, len0, cap0, rfl⟩ := okWide_slice Tryd.underlying33 (hval 0 33 v0 rfl rfl)
  obtain ⟨a2, len2, cap2, rfl⟩ := okWide_slice Tryd.underlying34 (hval 2 34 v2 rfl rfl)
  have h0k := h0
  have h2k := h2
  obtain ⟨fuel0, hf0⟩ := h0
  obtain ⟨fuel2, hf2⟩ := h2
  clear hA0 hval0
  simp only [List.append_nil] at hW'
  have hlt0 : ∀ x ∈ p0, x.block < W.heap.size := fun x hx => by
    have := hW'.lt x (by simp [hx])
    simpa using this
  have hlt2 : ∀ x ∈ p2, x.block < W.heap.size := fun x hx => by
    have := hW'.lt x (by simp [hx])
    simpa using this
  obtain ⟨rules, hr, hrl, hrf⟩ := open_rules (v := .slice a0 len0 cap0) hf0
  obtain ⟨asl, ha, hal, haf⟩ := open_asked (v := .slice a2 len2 cap2) hf2
  refine (grantLaw_any _ _ rules acc asl W hsh hr ha hacc hrl hal hrf haf).mono fun e W' ⟨he, hnx⟩ => ?_
  subst he
  exact ⟨_, rfl, _, _, _, [], p0 ++ p2, [], hW', trodAll_mk1 (shut_bool Tryd.underlying4 _), by
    have := trodAll_mk3 (Below.trod Tryd.laidOut5 (by kernel_rfl) (of_decide_eq_true (by kernel_rfl)) h0k hnx hlt0) (shut_string Tryd.underlying9 hacc) (Below.trod Tryd.laidOut5 (by kernel_rfl) (of_decide_eq_true (by kernel_rfl)) h2k hnx hlt2)
    simp only [List.nil_append] at this
    exact this, rfl, hnx.frame _, fun h => by cases h⟩

theorem grant_holds : Rows.FnGrantAgreesWithRuleByRuleModelSaid :=
  OpenClaim.holds_of_wide 5 Tryd.f5 rfl rfl rfl rfl rfl rfl rfl ⟨rfl, rfl, rfl, rfl, rfl⟩ rfl rfl rfl rfl rfl (by kernel_rfl) Tryd.func5 (by kernel_rfl)
    (of_decide_eq_true (by kernel_rfl)) (by unfold Func.isWrapper; first | (rw [if_pos (by decide +kernel)]; kernel_rfl) | (rw [if_neg (by decide +kernel)]; exact ⟨rfl, rfl⟩))
    (fun os started H enc _ => grant_lifted os started H enc)

theorem grant_card : Rows.FnGrantAgreesWithRuleByRuleModelCardSaid :=
  Claim7.holds_tied_plain_at .later [] [.data, .pinned] true (true, "cae45f57e60f18b7350db5bbb21417f0293c0f7f2201bc30fd5b1d487d26957f") false grant_holds (fun _ h => by cases h) (by kernel_rfl) (fun _ h => by cases h) fnGrantAgreesWithRuleByRuleModel_row_tie rfl ⟨rfl, rfl⟩ (by kernel_rfl) rfl
    (fun f fn hf hfn => by
      obtain rfl : f = 5 := Option.some.inj ((show Tryd.prog.funcNamed Rows.fnGrantAgreesWithRuleByRuleModelRow.func = some 5 by kernel_rfl).symm.trans hf) |>.symm
      obtain rfl : fn = Tryd.f5 := (Option.some.inj (Tryd.func5.symm.trans hfn)).symm
      exact ⟨by kernel_rfl, fun j t ht => by
        rw [Tryd.params5] at ht
        have hm : t ∈ [33, 9, 34] := by simpa using Array.mem_of_getElem? ht
        have hall : ([33, 9, 34].all fun u => !Tryd.prog.wantsStandIn u) = true := by kernel_rfl
        exact (show Tryd.prog.wantsStandIn t = false by simpa using List.all_eq_true.1 hall t hm)⟩)
    (by kernel_rfl)
end Go.Proofs.Qxb6601693aDoor
