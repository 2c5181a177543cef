/-
  NARROWER THAN 'FOR EVERY INPUT', by the rows' own cells (each row's printed sentence says how): FnSectionMatchesModel: laid · FnSectionKeepsWhatItFoundWhenTextGrows: laid.
  DERIVED. THE GIVEN ROWS OF THIS SEAT. 2 by the template 'for every input the law returns true; each argument reads behind the call as it read before'; 0 by the template 'total and deterministic' (their statements: Qxb6601375aDoorTotals.lean).
  GIVEN WITH THE SEED: the statements are not yours to turn. If you find one false, say at which input.
  Laid BY PROGRAM, IN A SANDBOX (cutbox-rows.mjs): the forced cells as the released guide's own fill.sh prints them over the translation 1ee70c1f557636b1… (all of the seat's roots in one cut). By AI agents, Wed Nov 11 2026. No macro, syntax, notation, axiom, sorry.
-/
import Derived.Test.Qxb6601375aDoorChecked
import GoSem.PinnedTables
import GoSem.Claim
import GoSem.ClaimJoined
import GoSem.ClaimMapViews
import Derived.JoinedTies
import Derived.KernelRfl
namespace Go.Proofs.Qxb6601375aDoor
/- THE CELL 'sum', in the pinned program and in every row, IS THE sha256 OF THE DUMP (.gsa) THAT Qxb6601375aDoorProg.lean LOADS. Nothing in Lean hashes anything: it is a label: what it is worth is what the hold of that sum in a sandbox is worth. -/
noncomputable def Tryd.pinned : Pinned := { name := "qxb6601375adoor", sum := "1ee70c1f557636b1578b1ecf2217595b5d0d0e18c3f49a17d9dde0371947de59", checked := Tryd.checked }
namespace Rows
def none {H : Type} : Left H := { results := [], args := [] }

/- WHAT THE LISTED PACKAGE-LEVEL VARIABLES READ AS WHEN THE CALL BEGINS. Each datum BY PROGRAM (the guide's laid-datum.mjs) off the statement by which the dump's own 'gosem.cut.vars' lays the variable. In a bare row this is a premise. The card (Qxb6601375aDoorCards.lean) ties it to the program's text. -/
def laid_unicode_utf8_acceptRanges {H : Type} : DataW H := .agg [.agg [.lit (.int .u8 128), .lit (.int .u8 191)], .agg [.lit (.int .u8 160), .lit (.int .u8 191)], .agg [.lit (.int .u8 128), .lit (.int .u8 159)], .agg [.lit (.int .u8 144), .lit (.int .u8 191)], .agg [.lit (.int .u8 128), .lit (.int .u8 143)], .agg [.lit (.int .u8 0), .lit (.int .u8 0)], .agg [.lit (.int .u8 0), .lit (.int .u8 0)], .agg [.lit (.int .u8 0), .lit (.int .u8 0)], .agg [.lit (.int .u8 0), .lit (.int .u8 0)], .agg [.lit (.int .u8 0), .lit (.int .u8 0)], .agg [.lit (.int .u8 0), .lit (.int .u8 0)], .agg [.lit (.int .u8 0), .lit (.int .u8 0)], .agg [.lit (.int .u8 0), .lit (.int .u8 0)], .agg [.lit (.int .u8 0), .lit (.int .u8 0)], .agg [.lit (.int .u8 0), .lit (.int .u8 0)], .agg [.lit (.int .u8 0), .lit (.int .u8 0)]]
/-- One of Go's own tables, pinned by name: the form's constant. -/
def laid_unicode_utf8_first : DataW Unit := Go.Pinned.utf8First

/-- 'zzlaws_internal_markdown_b1.FnSectionMatchesModel': WHATEVER THE INPUT: true; the input reads as it did. -/
def fnSectionMatchesModelSpec : ChangeSpec := { name := "fnSectionMatchesModel", fn := fun _ => fun
  | [d1, d2] => { results := [.lit (.bool true)], args := [d1, d2] }
  | _ => none }
def fnSectionMatchesModelRow : OpenClaim := { program := "qxb6601375adoor", sum := "1ee70c1f557636b1578b1ecf2217595b5d0d0e18c3f49a17d9dde0371947de59", func := "example.com/sheaf/sheaf/zzlaws_internal_markdown_b1.FnSectionMatchesModel", spec := "fnSectionMatchesModel", inPlace := ["internal/bytealg.IndexByteString", "internal/bytealg.IndexString"], unfollowed := true, recurses := true, named := ["unicode/utf8.first", "unicode/utf8.acceptRanges", "internal/bytealg.MaxLen"], apart := false, laid := [("unicode/utf8.acceptRanges", laid_unicode_utf8_acceptRanges), ("unicode/utf8.first", laid_unicode_utf8_first)] }
def FnSectionMatchesModelSaid : Prop := fnSectionMatchesModelRow.holds Tryd.pinned (OpenSpec.ofChange fnSectionMatchesModelSpec)

/-- ITS FALSE NEIGHBOUR: 'it returns false'. Refute it at one input. -/
def fnSectionMatchesModelWrong : ChangeSpec := { name := "fnSectionMatchesModel", fn := fun _ => fun
  | [d1, d2] => { results := [.lit (.bool false)], args := [d1, d2] }
  | _ => none }
def FnSectionMatchesModelWrongFalsely : Prop := fnSectionMatchesModelRow.holds Tryd.pinned (OpenSpec.ofChange fnSectionMatchesModelWrong)

/-- 'zzlaws_internal_markdown_b1.FnSectionKeepsWhatItFoundWhenTextGrows': WHATEVER THE INPUT: true; the input reads as it did. -/
def fnSectionKeepsWhatItFoundWhenTextGrowsSpec : ChangeSpec := { name := "fnSectionKeepsWhatItFoundWhenTextGrows", fn := fun _ => fun
  | [d1, d2, d3] => { results := [.lit (.bool true)], args := [d1, d2, d3] }
  | _ => none }
def fnSectionKeepsWhatItFoundWhenTextGrowsRow : OpenClaim := { program := "qxb6601375adoor", sum := "1ee70c1f557636b1578b1ecf2217595b5d0d0e18c3f49a17d9dde0371947de59", func := "example.com/sheaf/sheaf/zzlaws_internal_markdown_b1.FnSectionKeepsWhatItFoundWhenTextGrows", spec := "fnSectionKeepsWhatItFoundWhenTextGrows", inPlace := ["internal/bytealg.IndexByteString", "internal/bytealg.IndexString"], unfollowed := true, recurses := true, named := ["unicode/utf8.first", "unicode/utf8.acceptRanges", "internal/bytealg.MaxLen"], apart := false, laid := [("unicode/utf8.acceptRanges", laid_unicode_utf8_acceptRanges), ("unicode/utf8.first", laid_unicode_utf8_first)] }
def FnSectionKeepsWhatItFoundWhenTextGrowsSaid : Prop := fnSectionKeepsWhatItFoundWhenTextGrowsRow.holds Tryd.pinned (OpenSpec.ofChange fnSectionKeepsWhatItFoundWhenTextGrowsSpec)

/-- ITS FALSE NEIGHBOUR: 'it returns false'. Refute it at one input. -/
def fnSectionKeepsWhatItFoundWhenTextGrowsWrong : ChangeSpec := { name := "fnSectionKeepsWhatItFoundWhenTextGrows", fn := fun _ => fun
  | [d1, d2, d3] => { results := [.lit (.bool false)], args := [d1, d2, d3] }
  | _ => none }
def FnSectionKeepsWhatItFoundWhenTextGrowsWrongFalsely : Prop := fnSectionKeepsWhatItFoundWhenTextGrowsRow.holds Tryd.pinned (OpenSpec.ofChange fnSectionKeepsWhatItFoundWhenTextGrowsWrong)

end Rows
end Go.Proofs.Qxb6601375aDoor
