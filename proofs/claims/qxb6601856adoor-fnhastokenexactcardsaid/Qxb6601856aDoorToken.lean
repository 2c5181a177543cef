import Derived.Test.Qxb6601856aDoorTie
import Derived.Test.Qxb6601856aDoorCards
import Derived.Test.Qxb6601856aDoorW6
import Derived.Test.Qxb6601856aDoorWrap
import Derived.ProofKit
import Derived.OpenShut
import Derived.LaidMore
import Derived.Lay
import Derived.SevenTiedAt
import Derived.Stop.Joined
namespace Go.Proofs.Qxb6601856aDoor
open Go.ChangeShapes Go.WideShapes Go.ChangeAt Go.RowKit
open Go.ChangeMaps (open_string shut_string)

theorem Tryd.laidOut : laidOutB Tryd.prog = true := by kernel_rfl
theorem Tryd.cells5 : Tryd.prog.cellsOf 5 = 1 := by kernel_rfl
theorem byte_wf {z : Int} (h : (Lit.int .u8 z).wf = true) : 0 ≤ z ∧ z < 256 := by
  have h1 : IntKind.u8.min = 0 := rfl
  have h2 : IntKind.u8.max = 255 := rfl
  simp only [Lit.wf, Bool.and_eq_true, decide_eq_true_eq] at h
  omega
theorem own : ownKnob Tryd.prog.godebug = none := by kernel_rfl

set_option maxRecDepth 100000 in
theorem token_lifted (os : Os) (started : os.Started) (H : Type) (enc : TypeId × Value → H) :
    ReturnsInHanded {} Tryd.checked os 3 .any (fun w args => (Rows.fnHasTokenExactSpec.pre enc Tryd.prog Tryd.f3 Rows.fnHasTokenExactRow.domain false w args ∧ laidMetH Tryd.prog Rows.fnHasTokenExactRow.laid w) ∧ sizedMet enc Tryd.prog Tryd.f3 (OpenSpec.ofChange Rows.fnHasTokenExactSpec) false w args)
      (Rows.fnHasTokenExactSpec.post enc Tryd.prog Tryd.f3 false true false false) := by
  refine wrap_and_shaped (C := Tryd.checked) (X := fun w _ => laidMetH Tryd.prog Rows.fnHasTokenExactRow.laid w) (fun _ _ _ hh h => h.of_heap hh) own started (by kernel_rfl) Tryd.func3
    (ChangeSpec.witness_shaped (enc := enc) (C := Tryd.checked) (os := os) (X := fun w _ => laidMetH Tryd.prog Rows.fnHasTokenExactRow.laid w) false (World.laidAll Tryd.prog os Rows.fnHasTokenExactRow.laid) #[.slice none 0 0, .string ⟨#[]⟩] 8 (World.laidAll_os _ _ _)
      (World.shaped_of_ZipB (by kernel_rfl) (by kernel_rfl)) (by kernel_rfl) (by kernel_rfl) (by kernel_rfl)
      (by rw [MakeChecks.laidMetH_plain _ _ _ (by kernel_rfl)]; exact laidMet_laidAll _ (by kernel_rfl) (by kernel_rfl))) ?_
  intro W base args ds gs before hval0 hW _ _ _ hsh
  have hval : ∀ (j : Nat) t v, Tryd.f3.params[j]? = some t → args[j]? = some v → Value.okWide Tryd.prog W .any base t v := hval0
  have hW' := hW
  obtain ⟨p, q, hA0, hV, rfl, _, _⟩ := hW
  have hA : DataW.TrodAll enc Tryd.prog W 0 (fun _ => true) true Tryd.f3.params.toList args.toList ds p := hA0
  rw [Tryd.params3] at hA hval
  obtain ⟨v0, v1, d0, d1, p0, p1, rfl, rfl, rfl, h0, h1⟩ := trodAll_two hA
  obtain ⟨rfl, rfl⟩ := trodVars_none hV
  obtain ⟨t, rfl, rfl, rfl, ht⟩ := open_string Tryd.underlying9 (hval 1 9 v1 rfl rfl) h1
  obtain ⟨a0, len, cap, rfl⟩ := okWide_slice Tryd.underlying22 (hval 0 22 v0 rfl rfl)
  have h0k := h0
  obtain ⟨fuel, hf⟩ := h0
  clear hA0 hval0
  simp only [List.append_nil] at hW'
  have hlt : ∀ x ∈ p0, x.block < W.heap.size := fun x hx => by simpa using hW'.lt x hx
  have harg : ∃ l : List UInt8, ArgAt W (.slice a0 len cap) l ∧ l.length ≤ maxLen := by
    rcases open_ints Tryd.underlying22 Tryd.underlying5 Tryd.cells5 hf with ⟨hcs, _⟩ | ⟨a, len', cap', zs, hcs, _, hl, hm, hz, _, hcell, hwf⟩
    · simp [Value.cells] at hcs
      obtain ⟨rfl, rfl, rfl⟩ := hcs
      exact ⟨[], .inl ⟨rfl, rfl⟩, by simp⟩
    · simp [Value.cells] at hcs
      obtain ⟨rfl, rfl, rfl⟩ := hcs
      simp only [if_true] at hz
      have hlen : (Lib.bytesOf (zs.take len)).length = len := by rw [Lib.bytesOf_length, List.length_take]; omega
      refine ⟨Lib.bytesOf (zs.take len), .inr ⟨a, cap, by rw [hlen], fun i hi => ?_⟩, by rw [hlen]; omega⟩
      rw [hlen] at hi
      have hzi : i < zs.length := by omega
      rw [hcell i hzi]
      have hw := byte_wf (hwf _ (List.getElem_mem hzi))
      unfold at0 Lib.bytesOf
      rw [List.getD_eq_getElem?_getD, List.getD_eq_getElem?_getD, List.getElem?_map, List.getElem?_take, if_pos hi, List.getElem?_eq_getElem hzi]
      show some (Value.int .u8 zs[i]) = some (Value.int .u8 ((UInt8.ofNat zs[i].toNat).toNat : Int))
      congr 2
      rw [UInt8.toNat_ofNat']
      omega
  obtain ⟨l, hl, hll⟩ := harg
  refine (law_any _ l t W hl hll ht hsh).mono fun e W' ⟨he, hnx⟩ => ?_
  subst he
  exact ⟨_, rfl, _, _, _, [], p0, [], hW', trodAll_mk1 (shut_bool Tryd.underlying4 _), by
    have := trodAll_mk2 (Below.trod Tryd.laidOut (by kernel_rfl) (of_decide_eq_true (by kernel_rfl)) h0k hnx hlt) (shut_string Tryd.underlying9 ht)
    simp only [List.append_nil] at this
    exact this, rfl, hnx.frame _, fun h => by cases h⟩

theorem token_holds : Rows.FnHasTokenExactSaid :=
  OpenClaim.holds_of_wide 3 Tryd.f3 rfl rfl rfl rfl rfl rfl rfl ⟨rfl, rfl, rfl, rfl, rfl⟩ rfl rfl rfl rfl rfl (by kernel_rfl) Tryd.func3 (by kernel_rfl)
    (of_decide_eq_true (by kernel_rfl)) (by unfold Func.isWrapper; first | (rw [if_pos (by decide +kernel)]; kernel_rfl) | (rw [if_neg (by decide +kernel)]; exact ⟨rfl, rfl⟩))
    (fun os started H enc _ => token_lifted os started H enc)

theorem token_card : Rows.FnHasTokenExactCardSaid :=
  Claim7.holds_tied_plain_at .later [] [.data, .pinned] true (true, "8bca66a32a2ed4c59fd7b914032ad592727ab9eb8f74609b1103ea349423ca8c") false token_holds (fun _ h => by cases h) (by kernel_rfl) (fun _ h => by cases h) fnHasTokenExact_row_tie rfl ⟨rfl, rfl⟩ (by kernel_rfl) rfl
    (fun f fn hf hfn => by
      obtain rfl : f = 3 := Option.some.inj ((show Tryd.prog.funcNamed Rows.fnHasTokenExactRow.func = some 3 by kernel_rfl).symm.trans hf) |>.symm
      obtain rfl : fn = Tryd.f3 := (Option.some.inj (Tryd.func3.symm.trans hfn)).symm
      exact ⟨by kernel_rfl, fun j t ht => by
        rw [Tryd.params3] at ht
        have hm : t ∈ [22, 9] := by simpa using Array.mem_of_getElem? ht
        have hall : ([22, 9].all fun u => !Tryd.prog.wantsStandIn u) = true := by kernel_rfl
        exact (show Tryd.prog.wantsStandIn t = false by simpa using List.all_eq_true.1 hall t hm)⟩)
    (by kernel_rfl)
end Go.Proofs.Qxb6601856aDoor
