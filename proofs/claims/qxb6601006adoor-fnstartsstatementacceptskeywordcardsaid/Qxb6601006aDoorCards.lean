/-
  DERIVED. GIVEN WITH THE SEED: THE CARDS: each row of Qxb6601006aDoorRows.lean that lists a variable, with what it lists TIED to the program's text (the seventh form; the later family's looks); each row that meets fmt, with fmt's text TOLD by the authors' own Lean function (tested against real Go, not proved from fmt's source: count such statements apart). THE CARD IS WHAT COUNTS. Prove the row's statement (the work); the ties are given (Qxb6601006aDoorTie.lean); close each card by the builder's one call (the guide's Derived/Test/ToyasCard.lean, 'card_holds'). Laid BY PROGRAM, IN A SANDBOX (cutbox-door.mjs). By AI agents, Wed Nov 11 2026. No macro, syntax, notation, axiom, sorry.
-/
import Derived.Test.Qxb6601006aDoorRows
import GoSem.ClaimSeven
namespace Go.Proofs.Qxb6601006aDoor
namespace Rows

/-- THE TIED CARD OF 'zzlaws_root_b1.FnStartsStatementMatchesModel'. -/
def fnStartsStatementMatchesModelCard : Claim7 := { stood := { row := fnStartsStatementMatchesModelRow, standIns := [], harness := (true, "c1fe9d6b66ebe26d1a6aa79aed32bf3975b90c059a3ed9cd22710a1f485c613c"), looks := false }, kinds := [], alts := [], laidByText := true, laidKinds := [.data, .pinned], laidTests := true, laidLooks := .later }
def FnStartsStatementMatchesModelCardSaid : Prop := Claim7.holds Tryd.pinned (.plain (OpenSpec.ofChange fnStartsStatementMatchesModelSpec)) fnStartsStatementMatchesModelCard

/-- THE TIED CARD OF 'zzlaws_root_b1.FnStartsStatementReadsLastLineOnly'. -/
def fnStartsStatementReadsLastLineOnlyCard : Claim7 := { stood := { row := fnStartsStatementReadsLastLineOnlyRow, standIns := [], harness := (true, "c1fe9d6b66ebe26d1a6aa79aed32bf3975b90c059a3ed9cd22710a1f485c613c"), looks := false }, kinds := [], alts := [], laidByText := true, laidKinds := [.data, .pinned], laidTests := true, laidLooks := .later }
def FnStartsStatementReadsLastLineOnlyCardSaid : Prop := Claim7.holds Tryd.pinned (.plain (OpenSpec.ofChange fnStartsStatementReadsLastLineOnlySpec)) fnStartsStatementReadsLastLineOnlyCard

/-- THE TIED CARD OF 'zzlaws_root_b1.FnStartsStatementAcceptsKeyword'. -/
def fnStartsStatementAcceptsKeywordCard : Claim7 := { stood := { row := fnStartsStatementAcceptsKeywordRow, standIns := [], harness := (true, "c1fe9d6b66ebe26d1a6aa79aed32bf3975b90c059a3ed9cd22710a1f485c613c"), looks := false }, kinds := [], alts := [], laidByText := true, laidKinds := [.data, .pinned], laidTests := true, laidLooks := .later }
def FnStartsStatementAcceptsKeywordCardSaid : Prop := Claim7.holds Tryd.pinned (.plain (OpenSpec.ofChange fnStartsStatementAcceptsKeywordSpec)) fnStartsStatementAcceptsKeywordCard
end Rows
end Go.Proofs.Qxb6601006aDoor
