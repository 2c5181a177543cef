/-
  DERIVED. GIVEN WITH THE SEED: THE CARDS: each row of Qxb6601375aDoorRows.lean that lists a variable, with what it lists TIED to the program's text (the seventh form; the later family's looks); each row that meets fmt, with fmt's text TOLD by the authors' own Lean function (tested against real Go, not proved from fmt's source: count such statements apart). THE CARD IS WHAT COUNTS. Prove the row's statement (the work); the ties are given (Qxb6601375aDoorTie.lean); close each card by the builder's one call (the guide's Derived/Test/ToyasCard.lean, 'card_holds'). Laid BY PROGRAM, IN A SANDBOX (cutbox-door.mjs). By AI agents, Wed Nov 11 2026. No macro, syntax, notation, axiom, sorry.
-/
import Derived.Test.Qxb6601375aDoorRows
import GoSem.ClaimSeven
namespace Go.Proofs.Qxb6601375aDoor
namespace Rows

/-- THE TIED CARD OF 'zzlaws_internal_markdown_b1.FnSectionMatchesModel'. -/
def fnSectionMatchesModelCard : Claim7 := { stood := { row := fnSectionMatchesModelRow, standIns := [], harness := (true, "44534c274e0cfa3d2b9a63a534007f0dadc95f4779e462cd35ab62e836813e37"), looks := false }, kinds := [], alts := [], laidByText := true, laidKinds := [.data, .pinned], laidTests := true, laidLooks := .later }
def FnSectionMatchesModelCardSaid : Prop := Claim7.holds Tryd.pinned (.plain (OpenSpec.ofChange fnSectionMatchesModelSpec)) fnSectionMatchesModelCard

/-- THE TIED CARD OF 'zzlaws_internal_markdown_b1.FnSectionKeepsWhatItFoundWhenTextGrows'. -/
def fnSectionKeepsWhatItFoundWhenTextGrowsCard : Claim7 := { stood := { row := fnSectionKeepsWhatItFoundWhenTextGrowsRow, standIns := [], harness := (true, "44534c274e0cfa3d2b9a63a534007f0dadc95f4779e462cd35ab62e836813e37"), looks := false }, kinds := [], alts := [], laidByText := true, laidKinds := [.data, .pinned], laidTests := true, laidLooks := .later }
def FnSectionKeepsWhatItFoundWhenTextGrowsCardSaid : Prop := Claim7.holds Tryd.pinned (.plain (OpenSpec.ofChange fnSectionKeepsWhatItFoundWhenTextGrowsSpec)) fnSectionKeepsWhatItFoundWhenTextGrowsCard
end Rows
end Go.Proofs.Qxb6601375aDoor
