/-
  NARROWER THAN 'FOR EVERY INPUT', by the rows' own cells (each row's printed sentence says how): FnHasTokenExact: laid · FnHasTokenJoin: laid · FnHasTokenCaseBlind: laid.
  DERIVED. THE GIVEN ROWS OF THIS SEAT. 3 by the template 'for every input the law returns true; each argument reads behind the call as it read before'; 0 by the template 'total and deterministic' (their statements: Qxb6601856aDoorTotals.lean).
  GIVEN WITH THE SEED: the statements are not yours to turn. If you find one false, say at which input.
  Laid BY PROGRAM, IN A SANDBOX (cutbox-rows.mjs): the forced cells as the released guide's own fill.sh prints them over the translation e0de6f90555af174… (all of the seat's roots in one cut). By AI agents, Wed Nov 11 2026. No macro, syntax, notation, axiom, sorry.
-/
import Derived.Test.Qxb6601856aDoorChecked
import GoSem.PinnedTables
import GoSem.Claim
import GoSem.ClaimJoined
import GoSem.ClaimMapViews
import Derived.JoinedTies
import Derived.KernelRfl
namespace Go.Proofs.Qxb6601856aDoor
/- THE CELL 'sum', in the pinned program and in every row, IS THE sha256 OF THE DUMP (.gsa) THAT Qxb6601856aDoorProg.lean LOADS. Nothing in Lean hashes anything: it is a label: what it is worth is what the hold of that sum in a sandbox is worth. -/
noncomputable def Tryd.pinned : Pinned := { name := "qxb6601856adoor", sum := "e0de6f90555af1746cff9bb4d652fd9e872017cc9587569f52422def3300e876", checked := Tryd.checked }
namespace Rows
def none {H : Type} : Left H := { results := [], args := [] }

/- WHAT THE LISTED PACKAGE-LEVEL VARIABLES READ AS WHEN THE CALL BEGINS. Each datum BY PROGRAM (the guide's laid-datum.mjs) off the statement by which the dump's own 'gosem.cut.vars' lays the variable. In a bare row this is a premise. The card (Qxb6601856aDoorCards.lean) ties it to the program's text. -/
def laid_unicode_utf8_acceptRanges {H : Type} : DataW H := .agg [.agg [.lit (.int .u8 128), .lit (.int .u8 191)], .agg [.lit (.int .u8 160), .lit (.int .u8 191)], .agg [.lit (.int .u8 128), .lit (.int .u8 159)], .agg [.lit (.int .u8 144), .lit (.int .u8 191)], .agg [.lit (.int .u8 128), .lit (.int .u8 143)], .agg [.lit (.int .u8 0), .lit (.int .u8 0)], .agg [.lit (.int .u8 0), .lit (.int .u8 0)], .agg [.lit (.int .u8 0), .lit (.int .u8 0)], .agg [.lit (.int .u8 0), .lit (.int .u8 0)], .agg [.lit (.int .u8 0), .lit (.int .u8 0)], .agg [.lit (.int .u8 0), .lit (.int .u8 0)], .agg [.lit (.int .u8 0), .lit (.int .u8 0)], .agg [.lit (.int .u8 0), .lit (.int .u8 0)], .agg [.lit (.int .u8 0), .lit (.int .u8 0)], .agg [.lit (.int .u8 0), .lit (.int .u8 0)], .agg [.lit (.int .u8 0), .lit (.int .u8 0)]]
/-- One of Go's own tables, pinned by name: the form's constant. -/
def laid_unicode_utf8_first : DataW Unit := Go.Pinned.utf8First

/-- 'zzlaws_ws_handshake_b1.FnHasTokenExact': WHATEVER THE INPUT: true; the input reads as it did. -/
def fnHasTokenExactSpec : ChangeSpec := { name := "fnHasTokenExact", fn := fun _ => fun
  | [d1, d2] => { results := [.lit (.bool true)], args := [d1, d2] }
  | _ => none }
def fnHasTokenExactRow : OpenClaim := { program := "qxb6601856adoor", sum := "e0de6f90555af1746cff9bb4d652fd9e872017cc9587569f52422def3300e876", func := "diapause.example/diapause/zzlaws_ws_handshake_b1.FnHasTokenExact", spec := "fnHasTokenExact", inPlace := ["internal/bytealg.IndexByte", "internal/bytealg.Index"], named := ["internal/bytealg.MaxLen", "unicode/utf8.first", "unicode/utf8.acceptRanges"], apart := false, laid := [("unicode/utf8.acceptRanges", laid_unicode_utf8_acceptRanges), ("unicode/utf8.first", laid_unicode_utf8_first)] }
def FnHasTokenExactSaid : Prop := fnHasTokenExactRow.holds Tryd.pinned (OpenSpec.ofChange fnHasTokenExactSpec)

/-- ITS FALSE NEIGHBOUR: 'it returns false'. Refute it at one input. -/
def fnHasTokenExactWrong : ChangeSpec := { name := "fnHasTokenExact", fn := fun _ => fun
  | [d1, d2] => { results := [.lit (.bool false)], args := [d1, d2] }
  | _ => none }
def FnHasTokenExactWrongFalsely : Prop := fnHasTokenExactRow.holds Tryd.pinned (OpenSpec.ofChange fnHasTokenExactWrong)

/-- 'zzlaws_ws_handshake_b1.FnHasTokenJoin': WHATEVER THE INPUT: true; the input reads as it did. -/
def fnHasTokenJoinSpec : ChangeSpec := { name := "fnHasTokenJoin", fn := fun _ => fun
  | [d1, d2, d3] => { results := [.lit (.bool true)], args := [d1, d2, d3] }
  | _ => none }
def fnHasTokenJoinRow : OpenClaim := { program := "qxb6601856adoor", sum := "e0de6f90555af1746cff9bb4d652fd9e872017cc9587569f52422def3300e876", func := "diapause.example/diapause/zzlaws_ws_handshake_b1.FnHasTokenJoin", spec := "fnHasTokenJoin", inPlace := ["internal/bytealg.IndexByte", "internal/bytealg.Index"], named := ["internal/bytealg.MaxLen", "unicode/utf8.first", "unicode/utf8.acceptRanges"], apart := false, laid := [("unicode/utf8.acceptRanges", laid_unicode_utf8_acceptRanges), ("unicode/utf8.first", laid_unicode_utf8_first)] }
def FnHasTokenJoinSaid : Prop := fnHasTokenJoinRow.holds Tryd.pinned (OpenSpec.ofChange fnHasTokenJoinSpec)

/-- ITS FALSE NEIGHBOUR: 'it returns false'. Refute it at one input. -/
def fnHasTokenJoinWrong : ChangeSpec := { name := "fnHasTokenJoin", fn := fun _ => fun
  | [d1, d2, d3] => { results := [.lit (.bool false)], args := [d1, d2, d3] }
  | _ => none }
def FnHasTokenJoinWrongFalsely : Prop := fnHasTokenJoinRow.holds Tryd.pinned (OpenSpec.ofChange fnHasTokenJoinWrong)

/-- 'zzlaws_ws_handshake_b1.FnHasTokenCaseBlind': WHATEVER THE INPUT: true; the input reads as it did. -/
def fnHasTokenCaseBlindSpec : ChangeSpec := { name := "fnHasTokenCaseBlind", fn := fun _ => fun
  | [d1, d2] => { results := [.lit (.bool true)], args := [d1, d2] }
  | _ => none }
def fnHasTokenCaseBlindRow : OpenClaim := { program := "qxb6601856adoor", sum := "e0de6f90555af1746cff9bb4d652fd9e872017cc9587569f52422def3300e876", func := "diapause.example/diapause/zzlaws_ws_handshake_b1.FnHasTokenCaseBlind", spec := "fnHasTokenCaseBlind", inPlace := ["internal/bytealg.IndexByte", "internal/bytealg.Index"], named := ["internal/bytealg.MaxLen", "unicode/utf8.first", "unicode/utf8.acceptRanges"], apart := false, laid := [("unicode/utf8.acceptRanges", laid_unicode_utf8_acceptRanges), ("unicode/utf8.first", laid_unicode_utf8_first)] }
def FnHasTokenCaseBlindSaid : Prop := fnHasTokenCaseBlindRow.holds Tryd.pinned (OpenSpec.ofChange fnHasTokenCaseBlindSpec)

/-- ITS FALSE NEIGHBOUR: 'it returns false'. Refute it at one input. -/
def fnHasTokenCaseBlindWrong : ChangeSpec := { name := "fnHasTokenCaseBlind", fn := fun _ => fun
  | [d1, d2] => { results := [.lit (.bool false)], args := [d1, d2] }
  | _ => none }
def FnHasTokenCaseBlindWrongFalsely : Prop := fnHasTokenCaseBlindRow.holds Tryd.pinned (OpenSpec.ofChange fnHasTokenCaseBlindWrong)

end Rows
end Go.Proofs.Qxb6601856aDoor
