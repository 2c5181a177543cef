/-
  NARROWER THAN 'FOR EVERY INPUT', by the rows' own cells (each row's printed sentence says how): FnStartsStatementMatchesModel: laid · FnStartsStatementReadsLastLineOnly: laid · FnStartsStatementAcceptsKeyword: laid.
  DERIVED. THE GIVEN ROWS OF THIS SEAT. 3 by the template 'for every input the law returns true; each argument reads behind the call as it read before'; 0 by the template 'total and deterministic' (their statements: Qxb6601006aDoorTotals.lean).
  GIVEN WITH THE SEED: the statements are not yours to turn. If you find one false, say at which input.
  Laid BY PROGRAM, IN A SANDBOX (cutbox-rows.mjs): the forced cells as the released guide's own fill.sh prints them over the translation e804fc4d3fc8c349… (all of the seat's roots in one cut). By AI agents, Wed Nov 11 2026. No macro, syntax, notation, axiom, sorry.
-/
import Derived.Test.Qxb6601006aDoorChecked
import GoSem.PinnedTables
import GoSem.Claim
import GoSem.ClaimJoined
import GoSem.ClaimMapViews
import Derived.JoinedTies
import Derived.KernelRfl
namespace Go.Proofs.Qxb6601006aDoor
/- THE CELL 'sum', in the pinned program and in every row, IS THE sha256 OF THE DUMP (.gsa) THAT Qxb6601006aDoorProg.lean LOADS. Nothing in Lean hashes anything: it is a label: what it is worth is what the hold of that sum in a sandbox is worth. -/
noncomputable def Tryd.pinned : Pinned := { name := "qxb6601006adoor", sum := "e804fc4d3fc8c34900945b1ef41ea3f77681470c0d2ce6c81a87e5f580533d78", checked := Tryd.checked }
namespace Rows
def none {H : Type} : Left H := { results := [], args := [] }

/- WHAT THE LISTED PACKAGE-LEVEL VARIABLES READ AS WHEN THE CALL BEGINS. Each datum BY PROGRAM (the guide's laid-datum.mjs) off the statement by which the dump's own 'gosem.cut.vars' lays the variable. In a bare row this is a premise. The card (Qxb6601006aDoorCards.lean) ties it to the program's text. -/
def laid_unicode_utf8_acceptRanges {H : Type} : DataW H := .agg [.agg [.lit (.int .u8 128), .lit (.int .u8 191)], .agg [.lit (.int .u8 160), .lit (.int .u8 191)], .agg [.lit (.int .u8 128), .lit (.int .u8 159)], .agg [.lit (.int .u8 144), .lit (.int .u8 191)], .agg [.lit (.int .u8 128), .lit (.int .u8 143)], .agg [.lit (.int .u8 0), .lit (.int .u8 0)], .agg [.lit (.int .u8 0), .lit (.int .u8 0)], .agg [.lit (.int .u8 0), .lit (.int .u8 0)], .agg [.lit (.int .u8 0), .lit (.int .u8 0)], .agg [.lit (.int .u8 0), .lit (.int .u8 0)], .agg [.lit (.int .u8 0), .lit (.int .u8 0)], .agg [.lit (.int .u8 0), .lit (.int .u8 0)], .agg [.lit (.int .u8 0), .lit (.int .u8 0)], .agg [.lit (.int .u8 0), .lit (.int .u8 0)], .agg [.lit (.int .u8 0), .lit (.int .u8 0)], .agg [.lit (.int .u8 0), .lit (.int .u8 0)]]
/-- One of Go's own tables, pinned by name: the form's constant. -/
def laid_unicode_utf8_first : DataW Unit := Go.Pinned.utf8First

/-- 'zzlaws_root_b1.FnStartsStatementMatchesModel': WHATEVER THE INPUT: true; the input reads as it did. -/
def fnStartsStatementMatchesModelSpec : ChangeSpec := { name := "fnStartsStatementMatchesModel", fn := fun _ => fun
  | [d] => { results := [.lit (.bool true)], args := [d] }
  | _ => none }
def fnStartsStatementMatchesModelRow : OpenClaim := { program := "qxb6601006adoor", sum := "e804fc4d3fc8c34900945b1ef41ea3f77681470c0d2ce6c81a87e5f580533d78", func := "example.com/scoped-transactions/scoped-transactions/zzlaws_root_b1.FnStartsStatementMatchesModel", spec := "fnStartsStatementMatchesModel", inPlace := ["internal/bytealg.IndexByteString", "internal/bytealg.IndexString"], unfollowed := true, recurses := true, named := ["unicode/utf8.first", "unicode/utf8.acceptRanges", "internal/bytealg.MaxLen"], apart := false, laid := [("unicode/utf8.acceptRanges", laid_unicode_utf8_acceptRanges), ("unicode/utf8.first", laid_unicode_utf8_first)] }
def FnStartsStatementMatchesModelSaid : Prop := fnStartsStatementMatchesModelRow.holds Tryd.pinned (OpenSpec.ofChange fnStartsStatementMatchesModelSpec)

/-- ITS FALSE NEIGHBOUR: 'it returns false'. Refute it at one input. -/
def fnStartsStatementMatchesModelWrong : ChangeSpec := { name := "fnStartsStatementMatchesModel", fn := fun _ => fun
  | [d] => { results := [.lit (.bool false)], args := [d] }
  | _ => none }
def FnStartsStatementMatchesModelWrongFalsely : Prop := fnStartsStatementMatchesModelRow.holds Tryd.pinned (OpenSpec.ofChange fnStartsStatementMatchesModelWrong)

/-- 'zzlaws_root_b1.FnStartsStatementReadsLastLineOnly': WHATEVER THE INPUT: true; the input reads as it did. -/
def fnStartsStatementReadsLastLineOnlySpec : ChangeSpec := { name := "fnStartsStatementReadsLastLineOnly", fn := fun _ => fun
  | [d1, d2] => { results := [.lit (.bool true)], args := [d1, d2] }
  | _ => none }
def fnStartsStatementReadsLastLineOnlyRow : OpenClaim := { program := "qxb6601006adoor", sum := "e804fc4d3fc8c34900945b1ef41ea3f77681470c0d2ce6c81a87e5f580533d78", func := "example.com/scoped-transactions/scoped-transactions/zzlaws_root_b1.FnStartsStatementReadsLastLineOnly", spec := "fnStartsStatementReadsLastLineOnly", inPlace := ["internal/bytealg.IndexByteString", "internal/bytealg.IndexString"], unfollowed := true, recurses := true, named := ["unicode/utf8.first", "unicode/utf8.acceptRanges", "internal/bytealg.MaxLen"], apart := false, laid := [("unicode/utf8.acceptRanges", laid_unicode_utf8_acceptRanges), ("unicode/utf8.first", laid_unicode_utf8_first)] }
def FnStartsStatementReadsLastLineOnlySaid : Prop := fnStartsStatementReadsLastLineOnlyRow.holds Tryd.pinned (OpenSpec.ofChange fnStartsStatementReadsLastLineOnlySpec)

/-- ITS FALSE NEIGHBOUR: 'it returns false'. Refute it at one input. -/
def fnStartsStatementReadsLastLineOnlyWrong : ChangeSpec := { name := "fnStartsStatementReadsLastLineOnly", fn := fun _ => fun
  | [d1, d2] => { results := [.lit (.bool false)], args := [d1, d2] }
  | _ => none }
def FnStartsStatementReadsLastLineOnlyWrongFalsely : Prop := fnStartsStatementReadsLastLineOnlyRow.holds Tryd.pinned (OpenSpec.ofChange fnStartsStatementReadsLastLineOnlyWrong)

/-- 'zzlaws_root_b1.FnStartsStatementAcceptsKeyword': WHATEVER THE INPUT: true; the input reads as it did. -/
def fnStartsStatementAcceptsKeywordSpec : ChangeSpec := { name := "fnStartsStatementAcceptsKeyword", fn := fun _ => fun
  | [d1, d2, d3, d4] => { results := [.lit (.bool true)], args := [d1, d2, d3, d4] }
  | _ => none }
def fnStartsStatementAcceptsKeywordRow : OpenClaim := { program := "qxb6601006adoor", sum := "e804fc4d3fc8c34900945b1ef41ea3f77681470c0d2ce6c81a87e5f580533d78", func := "example.com/scoped-transactions/scoped-transactions/zzlaws_root_b1.FnStartsStatementAcceptsKeyword", spec := "fnStartsStatementAcceptsKeyword", inPlace := ["internal/bytealg.IndexByteString", "internal/bytealg.IndexString"], unfollowed := true, recurses := true, named := ["unicode/utf8.first", "unicode/utf8.acceptRanges", "internal/bytealg.MaxLen"], apart := false, laid := [("unicode/utf8.acceptRanges", laid_unicode_utf8_acceptRanges), ("unicode/utf8.first", laid_unicode_utf8_first)] }
def FnStartsStatementAcceptsKeywordSaid : Prop := fnStartsStatementAcceptsKeywordRow.holds Tryd.pinned (OpenSpec.ofChange fnStartsStatementAcceptsKeywordSpec)

/-- ITS FALSE NEIGHBOUR: 'it returns false'. Refute it at one input. -/
def fnStartsStatementAcceptsKeywordWrong : ChangeSpec := { name := "fnStartsStatementAcceptsKeyword", fn := fun _ => fun
  | [d1, d2, d3, d4] => { results := [.lit (.bool false)], args := [d1, d2, d3, d4] }
  | _ => none }
def FnStartsStatementAcceptsKeywordWrongFalsely : Prop := fnStartsStatementAcceptsKeywordRow.holds Tryd.pinned (OpenSpec.ofChange fnStartsStatementAcceptsKeywordWrong)

end Rows
end Go.Proofs.Qxb6601006aDoor
