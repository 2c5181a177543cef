/-
  DERIVED. GIVEN WITH THE SEED: THE CARDS: each row of Qxb6601693aDoorRows.lean that lists a variable, with what it lists TIED to the program's text (the seventh form; the later family's looks); each row that meets fmt, with fmt's text TOLD by the authors' own Lean function (tested against real Go, not proved from fmt's source: count such statements apart). THE CARD IS WHAT COUNTS. Prove the row's statement (the work); the ties are given (Qxb6601693aDoorTie.lean); close each card by the builder's one call (the guide's Derived/Test/ToyasCard.lean, 'card_holds'). Laid BY PROGRAM, IN A SANDBOX (cutbox-door.mjs). By AI agents, Wed Nov 11 2026. No macro, syntax, notation, axiom, sorry.
-/
import Derived.Test.Qxb6601693aDoorRows
import GoSem.ClaimSeven
namespace Go.Proofs.Qxb6601693aDoor
namespace Rows

/-- THE TIED CARD OF 'zzlaws_internal_access_b1.FnPatternMatchAgreesWithEveryPlacement'. -/
def fnPatternMatchAgreesWithEveryPlacementCard : Claim7 := { stood := { row := fnPatternMatchAgreesWithEveryPlacementRow, standIns := [], harness := (true, "cae45f57e60f18b7350db5bbb21417f0293c0f7f2201bc30fd5b1d487d26957f"), looks := false }, kinds := [], alts := [], laidByText := true, laidKinds := [.data, .pinned], laidTests := true, laidLooks := .later }
def FnPatternMatchAgreesWithEveryPlacementCardSaid : Prop := Claim7.holds Tryd.pinned (.plain (OpenSpec.ofChange fnPatternMatchAgreesWithEveryPlacementSpec)) fnPatternMatchAgreesWithEveryPlacementCard

/-- THE TIED CARD OF 'zzlaws_internal_access_b1.FnPatternMatchStarWidens'. -/
def fnPatternMatchStarWidensCard : Claim7 := { stood := { row := fnPatternMatchStarWidensRow, standIns := [], harness := (true, "cae45f57e60f18b7350db5bbb21417f0293c0f7f2201bc30fd5b1d487d26957f"), looks := false }, kinds := [], alts := [], laidByText := true, laidKinds := [.data, .pinned], laidTests := true, laidLooks := .later }
def FnPatternMatchStarWidensCardSaid : Prop := Claim7.holds Tryd.pinned (.plain (OpenSpec.ofChange fnPatternMatchStarWidensSpec)) fnPatternMatchStarWidensCard

/-- THE TIED CARD OF 'zzlaws_internal_access_b1.FnGrantAgreesWithRuleByRuleModel'. -/
def fnGrantAgreesWithRuleByRuleModelCard : Claim7 := { stood := { row := fnGrantAgreesWithRuleByRuleModelRow, standIns := [], harness := (true, "cae45f57e60f18b7350db5bbb21417f0293c0f7f2201bc30fd5b1d487d26957f"), looks := false }, kinds := [], alts := [], laidByText := true, laidKinds := [.data, .pinned], laidTests := true, laidLooks := .later }
def FnGrantAgreesWithRuleByRuleModelCardSaid : Prop := Claim7.holds Tryd.pinned (.plain (OpenSpec.ofChange fnGrantAgreesWithRuleByRuleModelSpec)) fnGrantAgreesWithRuleByRuleModelCard

/-- THE TIED CARD OF 'zzlaws_internal_access_b1.FnGrantOfItsGrantIsItself'. -/
def fnGrantOfItsGrantIsItselfCard : Claim7 := { stood := { row := fnGrantOfItsGrantIsItselfRow, standIns := [], harness := (true, "cae45f57e60f18b7350db5bbb21417f0293c0f7f2201bc30fd5b1d487d26957f"), looks := false }, kinds := [], alts := [], laidByText := true, laidKinds := [.data, .pinned], laidTests := true, laidLooks := .later }
def FnGrantOfItsGrantIsItselfCardSaid : Prop := Claim7.holds Tryd.pinned (.plain (OpenSpec.ofChange fnGrantOfItsGrantIsItselfSpec)) fnGrantOfItsGrantIsItselfCard

/-- THE TIED CARD OF 'zzlaws_internal_access_b1.FnGrantAnotherRuleTakesNothingAway'. -/
def fnGrantAnotherRuleTakesNothingAwayCard : Claim7 := { stood := { row := fnGrantAnotherRuleTakesNothingAwayRow, standIns := [], harness := (true, "cae45f57e60f18b7350db5bbb21417f0293c0f7f2201bc30fd5b1d487d26957f"), looks := false }, kinds := [], alts := [], laidByText := true, laidKinds := [.data, .pinned], laidTests := true, laidLooks := .later }
def FnGrantAnotherRuleTakesNothingAwayCardSaid : Prop := Claim7.holds Tryd.pinned (.plain (OpenSpec.ofChange fnGrantAnotherRuleTakesNothingAwaySpec)) fnGrantAnotherRuleTakesNothingAwayCard
end Rows
end Go.Proofs.Qxb6601693aDoor
