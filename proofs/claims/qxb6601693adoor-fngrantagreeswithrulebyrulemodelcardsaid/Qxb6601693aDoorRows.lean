/-
  NARROWER THAN 'FOR EVERY INPUT', by the rows' own cells (each row's printed sentence says how): FnPatternMatchAgreesWithEveryPlacement: laid · FnPatternMatchStarWidens: laid · FnGrantAgreesWithRuleByRuleModel: laid · FnGrantOfItsGrantIsItself: laid · FnGrantAnotherRuleTakesNothingAway: laid.
  DERIVED. THE GIVEN ROWS OF THIS SEAT. 5 by the template 'for every input the law returns true; each argument reads behind the call as it read before'; 0 by the template 'total and deterministic' (their statements: Qxb6601693aDoorTotals.lean).
  GIVEN WITH THE SEED: the statements are not yours to turn. If you find one false, say at which input.
  Laid BY PROGRAM, IN A SANDBOX (cutbox-rows.mjs): the forced cells as the released guide's own fill.sh prints them over the translation 8e9b379154dfd5bf… (all of the seat's roots in one cut). By AI agents, Wed Nov 11 2026. No macro, syntax, notation, axiom, sorry.
-/
import Derived.Test.Qxb6601693aDoorChecked
import GoSem.PinnedTables
import GoSem.Claim
import GoSem.ClaimJoined
import GoSem.ClaimMapViews
import Derived.JoinedTies
import Derived.KernelRfl
namespace Go.Proofs.Qxb6601693aDoor
/- THE CELL 'sum', in the pinned program and in every row, IS THE sha256 OF THE DUMP (.gsa) THAT Qxb6601693aDoorProg.lean LOADS. Nothing in Lean hashes anything: it is a label: what it is worth is what the hold of that sum in a sandbox is worth. -/
noncomputable def Tryd.pinned : Pinned := { name := "qxb6601693adoor", sum := "8e9b379154dfd5bf41e56022be5ae86fe72a0772e29620375e625afec7269ef9", checked := Tryd.checked }
namespace Rows
def none {H : Type} : Left H := { results := [], args := [] }

/- WHAT THE LISTED PACKAGE-LEVEL VARIABLES READ AS WHEN THE CALL BEGINS. Each datum BY PROGRAM (the guide's laid-datum.mjs) off the statement by which the dump's own 'gosem.cut.vars' lays the variable. In a bare row this is a premise. The card (Qxb6601693aDoorCards.lean) ties it to the program's text. -/
def laid_unicode_utf8_acceptRanges {H : Type} : DataW H := .agg [.agg [.lit (.int .u8 128), .lit (.int .u8 191)], .agg [.lit (.int .u8 160), .lit (.int .u8 191)], .agg [.lit (.int .u8 128), .lit (.int .u8 159)], .agg [.lit (.int .u8 144), .lit (.int .u8 191)], .agg [.lit (.int .u8 128), .lit (.int .u8 143)], .agg [.lit (.int .u8 0), .lit (.int .u8 0)], .agg [.lit (.int .u8 0), .lit (.int .u8 0)], .agg [.lit (.int .u8 0), .lit (.int .u8 0)], .agg [.lit (.int .u8 0), .lit (.int .u8 0)], .agg [.lit (.int .u8 0), .lit (.int .u8 0)], .agg [.lit (.int .u8 0), .lit (.int .u8 0)], .agg [.lit (.int .u8 0), .lit (.int .u8 0)], .agg [.lit (.int .u8 0), .lit (.int .u8 0)], .agg [.lit (.int .u8 0), .lit (.int .u8 0)], .agg [.lit (.int .u8 0), .lit (.int .u8 0)], .agg [.lit (.int .u8 0), .lit (.int .u8 0)]]
/-- One of Go's own tables, pinned by name: the form's constant. -/
def laid_unicode_utf8_first : DataW Unit := Go.Pinned.utf8First

/-- 'zzlaws_internal_access_b1.FnPatternMatchAgreesWithEveryPlacement': WHATEVER THE INPUT: true; the input reads as it did. -/
def fnPatternMatchAgreesWithEveryPlacementSpec : ChangeSpec := { name := "fnPatternMatchAgreesWithEveryPlacement", fn := fun _ => fun
  | [d1, d2, d3, d4] => { results := [.lit (.bool true)], args := [d1, d2, d3, d4] }
  | _ => none }
def fnPatternMatchAgreesWithEveryPlacementRow : OpenClaim := { program := "qxb6601693adoor", sum := "8e9b379154dfd5bf41e56022be5ae86fe72a0772e29620375e625afec7269ef9", func := "example.com/honeyguide/honeyguide/zzlaws_internal_access_b1.FnPatternMatchAgreesWithEveryPlacement", spec := "fnPatternMatchAgreesWithEveryPlacement", inPlace := ["internal/bytealg.CountString", "internal/bytealg.IndexByteString", "internal/bytealg.IndexString", "internal/abi.NoEscape", "internal/bytealg.MakeNoZero"], named := ["internal/bytealg.MaxLen", "unicode/utf8.first", "unicode/utf8.acceptRanges"], plainKeys := false, apart := false, laid := [("unicode/utf8.acceptRanges", laid_unicode_utf8_acceptRanges), ("unicode/utf8.first", laid_unicode_utf8_first)] }
def FnPatternMatchAgreesWithEveryPlacementSaid : Prop := fnPatternMatchAgreesWithEveryPlacementRow.holds Tryd.pinned (OpenSpec.ofChange fnPatternMatchAgreesWithEveryPlacementSpec)

/-- ITS FALSE NEIGHBOUR: 'it returns false'. Refute it at one input. -/
def fnPatternMatchAgreesWithEveryPlacementWrong : ChangeSpec := { name := "fnPatternMatchAgreesWithEveryPlacement", fn := fun _ => fun
  | [d1, d2, d3, d4] => { results := [.lit (.bool false)], args := [d1, d2, d3, d4] }
  | _ => none }
def FnPatternMatchAgreesWithEveryPlacementWrongFalsely : Prop := fnPatternMatchAgreesWithEveryPlacementRow.holds Tryd.pinned (OpenSpec.ofChange fnPatternMatchAgreesWithEveryPlacementWrong)

/-- 'zzlaws_internal_access_b1.FnPatternMatchStarWidens': WHATEVER THE INPUT: true; the input reads as it did. -/
def fnPatternMatchStarWidensSpec : ChangeSpec := { name := "fnPatternMatchStarWidens", fn := fun _ => fun
  | [d1, d2, d3, d4, d5, d6] => { results := [.lit (.bool true)], args := [d1, d2, d3, d4, d5, d6] }
  | _ => none }
def fnPatternMatchStarWidensRow : OpenClaim := { program := "qxb6601693adoor", sum := "8e9b379154dfd5bf41e56022be5ae86fe72a0772e29620375e625afec7269ef9", func := "example.com/honeyguide/honeyguide/zzlaws_internal_access_b1.FnPatternMatchStarWidens", spec := "fnPatternMatchStarWidens", inPlace := ["internal/bytealg.CountString", "internal/bytealg.IndexByteString", "internal/bytealg.IndexString", "internal/abi.NoEscape", "internal/bytealg.MakeNoZero"], named := ["internal/bytealg.MaxLen", "unicode/utf8.first", "unicode/utf8.acceptRanges"], plainKeys := false, apart := false, laid := [("unicode/utf8.acceptRanges", laid_unicode_utf8_acceptRanges), ("unicode/utf8.first", laid_unicode_utf8_first)] }
def FnPatternMatchStarWidensSaid : Prop := fnPatternMatchStarWidensRow.holds Tryd.pinned (OpenSpec.ofChange fnPatternMatchStarWidensSpec)

/-- ITS FALSE NEIGHBOUR: 'it returns false'. Refute it at one input. -/
def fnPatternMatchStarWidensWrong : ChangeSpec := { name := "fnPatternMatchStarWidens", fn := fun _ => fun
  | [d1, d2, d3, d4, d5, d6] => { results := [.lit (.bool false)], args := [d1, d2, d3, d4, d5, d6] }
  | _ => none }
def FnPatternMatchStarWidensWrongFalsely : Prop := fnPatternMatchStarWidensRow.holds Tryd.pinned (OpenSpec.ofChange fnPatternMatchStarWidensWrong)

/-- 'zzlaws_internal_access_b1.FnGrantAgreesWithRuleByRuleModel': WHATEVER THE INPUT: true; the input reads as it did. -/
def fnGrantAgreesWithRuleByRuleModelSpec : ChangeSpec := { name := "fnGrantAgreesWithRuleByRuleModel", fn := fun _ => fun
  | [d1, d2, d3] => { results := [.lit (.bool true)], args := [d1, d2, d3] }
  | _ => none }
def fnGrantAgreesWithRuleByRuleModelRow : OpenClaim := { program := "qxb6601693adoor", sum := "8e9b379154dfd5bf41e56022be5ae86fe72a0772e29620375e625afec7269ef9", func := "example.com/honeyguide/honeyguide/zzlaws_internal_access_b1.FnGrantAgreesWithRuleByRuleModel", spec := "fnGrantAgreesWithRuleByRuleModel", inPlace := ["internal/bytealg.CountString", "internal/bytealg.IndexByteString", "internal/bytealg.IndexString", "internal/abi.NoEscape", "internal/bytealg.MakeNoZero"], recurses := true, named := ["internal/bytealg.MaxLen", "unicode/utf8.first", "unicode/utf8.acceptRanges"], plainKeys := false, apart := false, laid := [("unicode/utf8.acceptRanges", laid_unicode_utf8_acceptRanges), ("unicode/utf8.first", laid_unicode_utf8_first)] }
def FnGrantAgreesWithRuleByRuleModelSaid : Prop := fnGrantAgreesWithRuleByRuleModelRow.holds Tryd.pinned (OpenSpec.ofChange fnGrantAgreesWithRuleByRuleModelSpec)

/-- ITS FALSE NEIGHBOUR: 'it returns false'. Refute it at one input. -/
def fnGrantAgreesWithRuleByRuleModelWrong : ChangeSpec := { name := "fnGrantAgreesWithRuleByRuleModel", fn := fun _ => fun
  | [d1, d2, d3] => { results := [.lit (.bool false)], args := [d1, d2, d3] }
  | _ => none }
def FnGrantAgreesWithRuleByRuleModelWrongFalsely : Prop := fnGrantAgreesWithRuleByRuleModelRow.holds Tryd.pinned (OpenSpec.ofChange fnGrantAgreesWithRuleByRuleModelWrong)

/-- 'zzlaws_internal_access_b1.FnGrantOfItsGrantIsItself': WHATEVER THE INPUT: true; the input reads as it did. -/
def fnGrantOfItsGrantIsItselfSpec : ChangeSpec := { name := "fnGrantOfItsGrantIsItself", fn := fun _ => fun
  | [d1, d2, d3] => { results := [.lit (.bool true)], args := [d1, d2, d3] }
  | _ => none }
def fnGrantOfItsGrantIsItselfRow : OpenClaim := { program := "qxb6601693adoor", sum := "8e9b379154dfd5bf41e56022be5ae86fe72a0772e29620375e625afec7269ef9", func := "example.com/honeyguide/honeyguide/zzlaws_internal_access_b1.FnGrantOfItsGrantIsItself", spec := "fnGrantOfItsGrantIsItself", inPlace := ["internal/bytealg.CountString", "internal/bytealg.IndexByteString", "internal/bytealg.IndexString", "internal/abi.NoEscape", "internal/bytealg.MakeNoZero"], recurses := true, named := ["internal/bytealg.MaxLen", "unicode/utf8.first", "unicode/utf8.acceptRanges"], plainKeys := false, apart := false, laid := [("unicode/utf8.acceptRanges", laid_unicode_utf8_acceptRanges), ("unicode/utf8.first", laid_unicode_utf8_first)] }
def FnGrantOfItsGrantIsItselfSaid : Prop := fnGrantOfItsGrantIsItselfRow.holds Tryd.pinned (OpenSpec.ofChange fnGrantOfItsGrantIsItselfSpec)

/-- ITS FALSE NEIGHBOUR: 'it returns false'. Refute it at one input. -/
def fnGrantOfItsGrantIsItselfWrong : ChangeSpec := { name := "fnGrantOfItsGrantIsItself", fn := fun _ => fun
  | [d1, d2, d3] => { results := [.lit (.bool false)], args := [d1, d2, d3] }
  | _ => none }
def FnGrantOfItsGrantIsItselfWrongFalsely : Prop := fnGrantOfItsGrantIsItselfRow.holds Tryd.pinned (OpenSpec.ofChange fnGrantOfItsGrantIsItselfWrong)

/-- 'zzlaws_internal_access_b1.FnGrantAnotherRuleTakesNothingAway': WHATEVER THE INPUT: true; the input reads as it did. -/
def fnGrantAnotherRuleTakesNothingAwaySpec : ChangeSpec := { name := "fnGrantAnotherRuleTakesNothingAway", fn := fun _ => fun
  | [d1, d2, d3, d4] => { results := [.lit (.bool true)], args := [d1, d2, d3, d4] }
  | _ => none }
def fnGrantAnotherRuleTakesNothingAwayRow : OpenClaim := { program := "qxb6601693adoor", sum := "8e9b379154dfd5bf41e56022be5ae86fe72a0772e29620375e625afec7269ef9", func := "example.com/honeyguide/honeyguide/zzlaws_internal_access_b1.FnGrantAnotherRuleTakesNothingAway", spec := "fnGrantAnotherRuleTakesNothingAway", inPlace := ["internal/bytealg.CountString", "internal/bytealg.IndexByteString", "internal/bytealg.IndexString", "internal/abi.NoEscape", "internal/bytealg.MakeNoZero"], recurses := true, named := ["internal/bytealg.MaxLen", "unicode/utf8.first", "unicode/utf8.acceptRanges"], plainKeys := false, apart := false, laid := [("unicode/utf8.acceptRanges", laid_unicode_utf8_acceptRanges), ("unicode/utf8.first", laid_unicode_utf8_first)] }
def FnGrantAnotherRuleTakesNothingAwaySaid : Prop := fnGrantAnotherRuleTakesNothingAwayRow.holds Tryd.pinned (OpenSpec.ofChange fnGrantAnotherRuleTakesNothingAwaySpec)

/-- ITS FALSE NEIGHBOUR: 'it returns false'. Refute it at one input. -/
def fnGrantAnotherRuleTakesNothingAwayWrong : ChangeSpec := { name := "fnGrantAnotherRuleTakesNothingAway", fn := fun _ => fun
  | [d1, d2, d3, d4] => { results := [.lit (.bool false)], args := [d1, d2, d3, d4] }
  | _ => none }
def FnGrantAnotherRuleTakesNothingAwayWrongFalsely : Prop := fnGrantAnotherRuleTakesNothingAwayRow.holds Tryd.pinned (OpenSpec.ofChange fnGrantAnotherRuleTakesNothingAwayWrong)

end Rows
end Go.Proofs.Qxb6601693aDoor
