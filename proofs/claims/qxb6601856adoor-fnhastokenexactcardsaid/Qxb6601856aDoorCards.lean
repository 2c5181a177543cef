/-
  DERIVED. GIVEN WITH THE SEED: THE CARDS: each row of Qxb6601856aDoorRows.lean that lists a variable, with what it lists TIED to the program's text (the seventh form; the later family's looks); each row that meets fmt, with fmt's text TOLD by the authors' own Lean function (tested against real Go, not proved from fmt's source: count such statements apart). THE CARD IS WHAT COUNTS. Prove the row's statement (the work); the ties are given (Qxb6601856aDoorTie.lean); close each card by the builder's one call (the guide's Derived/Test/ToyasCard.lean, 'card_holds'). Laid BY PROGRAM, IN A SANDBOX (cutbox-door.mjs). By AI agents, Wed Nov 11 2026. No macro, syntax, notation, axiom, sorry.
-/
import Derived.Test.Qxb6601856aDoorRows
import GoSem.ClaimSeven
namespace Go.Proofs.Qxb6601856aDoor
namespace Rows

/-- THE TIED CARD OF 'zzlaws_ws_handshake_b1.FnHasTokenExact'. -/
def fnHasTokenExactCard : Claim7 := { stood := { row := fnHasTokenExactRow, standIns := [], harness := (true, "8bca66a32a2ed4c59fd7b914032ad592727ab9eb8f74609b1103ea349423ca8c"), looks := false }, kinds := [], alts := [], laidByText := true, laidKinds := [.data, .pinned], laidTests := true, laidLooks := .later }
def FnHasTokenExactCardSaid : Prop := Claim7.holds Tryd.pinned (.plain (OpenSpec.ofChange fnHasTokenExactSpec)) fnHasTokenExactCard

/-- THE TIED CARD OF 'zzlaws_ws_handshake_b1.FnHasTokenJoin'. -/
def fnHasTokenJoinCard : Claim7 := { stood := { row := fnHasTokenJoinRow, standIns := [], harness := (true, "8bca66a32a2ed4c59fd7b914032ad592727ab9eb8f74609b1103ea349423ca8c"), looks := false }, kinds := [], alts := [], laidByText := true, laidKinds := [.data, .pinned], laidTests := true, laidLooks := .later }
def FnHasTokenJoinCardSaid : Prop := Claim7.holds Tryd.pinned (.plain (OpenSpec.ofChange fnHasTokenJoinSpec)) fnHasTokenJoinCard

/-- THE TIED CARD OF 'zzlaws_ws_handshake_b1.FnHasTokenCaseBlind'. -/
def fnHasTokenCaseBlindCard : Claim7 := { stood := { row := fnHasTokenCaseBlindRow, standIns := [], harness := (true, "8bca66a32a2ed4c59fd7b914032ad592727ab9eb8f74609b1103ea349423ca8c"), looks := false }, kinds := [], alts := [], laidByText := true, laidKinds := [.data, .pinned], laidTests := true, laidLooks := .later }
def FnHasTokenCaseBlindCardSaid : Prop := Claim7.holds Tryd.pinned (.plain (OpenSpec.ofChange fnHasTokenCaseBlindSpec)) fnHasTokenCaseBlindCard
end Rows
end Go.Proofs.Qxb6601856aDoor
