/-
  NARROWER THAN 'FOR EVERY INPUT', by the rows' own cells (each row's printed sentence says how): FnIsNumberMatchesByteModel: laid · FnIsNumberIgnoresASCIICase: laid · FnIsNumberPrefixClosed: laid.
  DERIVED. THE GIVEN ROWS OF THIS SEAT. 3 by the template 'for every input the law returns true; each argument reads behind the call as it read before'; 0 by the template 'total and deterministic' (their statements: Qxb6601037aDoorTotals.lean).
  GIVEN WITH THE SEED: the statements are not yours to turn. If you find one false, say at which input.
  Laid BY PROGRAM, IN A SANDBOX (cutbox-rows.mjs): the forced cells as the released guide's own fill.sh prints them over the translation f16310cf6d182397… (all of the seat's roots in one cut). By AI agents, Wed Nov 11 2026. No macro, syntax, notation, axiom, sorry.
-/
import Derived.Test.Qxb6601037aDoorChecked
import GoSem.PinnedTables
import GoSem.Claim
import GoSem.ClaimJoined
import GoSem.ClaimMapViews
import Derived.JoinedTies
import Derived.KernelRfl
namespace Go.Proofs.Qxb6601037aDoor
/- THE CELL 'sum', in the pinned program and in every row, IS THE sha256 OF THE DUMP (.gsa) THAT Qxb6601037aDoorProg.lean LOADS. Nothing in Lean hashes anything: it is a label: what it is worth is what the hold of that sum in a sandbox is worth. -/
noncomputable def Tryd.pinned : Pinned := { name := "qxb6601037adoor", sum := "f16310cf6d182397b3f4fe4016d2bb754c98378a1d61347c045e30d4c57c5751", checked := Tryd.checked }
namespace Rows
def none {H : Type} : Left H := { results := [], args := [] }

/- WHAT THE LISTED PACKAGE-LEVEL VARIABLES READ AS WHEN THE CALL BEGINS. Each datum BY PROGRAM (the guide's laid-datum.mjs) off the statement by which the dump's own 'gosem.cut.vars' lays the variable. In a bare row this is a premise. The card (Qxb6601037aDoorCards.lean) ties it to the program's text. -/
def laid_unicode_utf8_acceptRanges {H : Type} : DataW H := .agg [.agg [.lit (.int .u8 128), .lit (.int .u8 191)], .agg [.lit (.int .u8 160), .lit (.int .u8 191)], .agg [.lit (.int .u8 128), .lit (.int .u8 159)], .agg [.lit (.int .u8 144), .lit (.int .u8 191)], .agg [.lit (.int .u8 128), .lit (.int .u8 143)], .agg [.lit (.int .u8 0), .lit (.int .u8 0)], .agg [.lit (.int .u8 0), .lit (.int .u8 0)], .agg [.lit (.int .u8 0), .lit (.int .u8 0)], .agg [.lit (.int .u8 0), .lit (.int .u8 0)], .agg [.lit (.int .u8 0), .lit (.int .u8 0)], .agg [.lit (.int .u8 0), .lit (.int .u8 0)], .agg [.lit (.int .u8 0), .lit (.int .u8 0)], .agg [.lit (.int .u8 0), .lit (.int .u8 0)], .agg [.lit (.int .u8 0), .lit (.int .u8 0)], .agg [.lit (.int .u8 0), .lit (.int .u8 0)], .agg [.lit (.int .u8 0), .lit (.int .u8 0)]]
/-- One of Go's own tables, pinned by name: the form's constant. -/
def laid_unicode_CaseRanges : DataW Unit := Go.Pinned.caseRanges
/-- One of Go's own tables, pinned by name: the form's constant. -/
def laid_unicode_utf8_first : DataW Unit := Go.Pinned.utf8First

/-- 'zzlaws_weburl_b1.FnIsNumberMatchesByteModel': WHATEVER THE INPUT: true; the input reads as it did. -/
def fnIsNumberMatchesByteModelSpec : ChangeSpec := { name := "fnIsNumberMatchesByteModel", fn := fun _ => fun
  | [d] => { results := [.lit (.bool true)], args := [d] }
  | _ => none }
def fnIsNumberMatchesByteModelRow : OpenClaim := { program := "qxb6601037adoor", sum := "f16310cf6d182397b3f4fe4016d2bb754c98378a1d61347c045e30d4c57c5751", func := "example.com/rigorous-signon/rigorous-signon/zzlaws_weburl_b1.FnIsNumberMatchesByteModel", spec := "fnIsNumberMatchesByteModel", inPlace := ["internal/abi.NoEscape", "internal/bytealg.MakeNoZero", "internal/bytealg.IndexByteString", "internal/bytealg.IndexString"], unfollowed := true, recurses := true, named := ["unicode/utf8.first", "unicode/utf8.acceptRanges", "unicode.CaseRanges", "internal/bytealg.MaxLen"], apart := false, laid := [("unicode/utf8.acceptRanges", laid_unicode_utf8_acceptRanges), ("unicode.CaseRanges", laid_unicode_CaseRanges), ("unicode/utf8.first", laid_unicode_utf8_first)] }
def FnIsNumberMatchesByteModelSaid : Prop := fnIsNumberMatchesByteModelRow.holds Tryd.pinned (OpenSpec.ofChange fnIsNumberMatchesByteModelSpec)

/-- ITS FALSE NEIGHBOUR: 'it returns false'. Refute it at one input. -/
def fnIsNumberMatchesByteModelWrong : ChangeSpec := { name := "fnIsNumberMatchesByteModel", fn := fun _ => fun
  | [d] => { results := [.lit (.bool false)], args := [d] }
  | _ => none }
def FnIsNumberMatchesByteModelWrongFalsely : Prop := fnIsNumberMatchesByteModelRow.holds Tryd.pinned (OpenSpec.ofChange fnIsNumberMatchesByteModelWrong)

/-- 'zzlaws_weburl_b1.FnIsNumberIgnoresASCIICase': WHATEVER THE INPUT: true; the input reads as it did. -/
def fnIsNumberIgnoresASCIICaseSpec : ChangeSpec := { name := "fnIsNumberIgnoresASCIICase", fn := fun _ => fun
  | [d] => { results := [.lit (.bool true)], args := [d] }
  | _ => none }
def fnIsNumberIgnoresASCIICaseRow : OpenClaim := { program := "qxb6601037adoor", sum := "f16310cf6d182397b3f4fe4016d2bb754c98378a1d61347c045e30d4c57c5751", func := "example.com/rigorous-signon/rigorous-signon/zzlaws_weburl_b1.FnIsNumberIgnoresASCIICase", spec := "fnIsNumberIgnoresASCIICase", inPlace := ["internal/abi.NoEscape", "internal/bytealg.MakeNoZero", "internal/bytealg.IndexByteString", "internal/bytealg.IndexString"], unfollowed := true, recurses := true, named := ["unicode/utf8.first", "unicode/utf8.acceptRanges", "unicode.CaseRanges", "internal/bytealg.MaxLen"], apart := false, laid := [("unicode/utf8.acceptRanges", laid_unicode_utf8_acceptRanges), ("unicode.CaseRanges", laid_unicode_CaseRanges), ("unicode/utf8.first", laid_unicode_utf8_first)] }
def FnIsNumberIgnoresASCIICaseSaid : Prop := fnIsNumberIgnoresASCIICaseRow.holds Tryd.pinned (OpenSpec.ofChange fnIsNumberIgnoresASCIICaseSpec)

/-- ITS FALSE NEIGHBOUR: 'it returns false'. Refute it at one input. -/
def fnIsNumberIgnoresASCIICaseWrong : ChangeSpec := { name := "fnIsNumberIgnoresASCIICase", fn := fun _ => fun
  | [d] => { results := [.lit (.bool false)], args := [d] }
  | _ => none }
def FnIsNumberIgnoresASCIICaseWrongFalsely : Prop := fnIsNumberIgnoresASCIICaseRow.holds Tryd.pinned (OpenSpec.ofChange fnIsNumberIgnoresASCIICaseWrong)

/-- 'zzlaws_weburl_b1.FnIsNumberPrefixClosed': WHATEVER THE INPUT: true; the input reads as it did. -/
def fnIsNumberPrefixClosedSpec : ChangeSpec := { name := "fnIsNumberPrefixClosed", fn := fun _ => fun
  | [d1, d2] => { results := [.lit (.bool true)], args := [d1, d2] }
  | _ => none }
def fnIsNumberPrefixClosedRow : OpenClaim := { program := "qxb6601037adoor", sum := "f16310cf6d182397b3f4fe4016d2bb754c98378a1d61347c045e30d4c57c5751", func := "example.com/rigorous-signon/rigorous-signon/zzlaws_weburl_b1.FnIsNumberPrefixClosed", spec := "fnIsNumberPrefixClosed", inPlace := ["internal/abi.NoEscape", "internal/bytealg.MakeNoZero", "internal/bytealg.IndexByteString", "internal/bytealg.IndexString"], unfollowed := true, recurses := true, named := ["unicode/utf8.first", "unicode/utf8.acceptRanges", "unicode.CaseRanges", "internal/bytealg.MaxLen"], apart := false, laid := [("unicode/utf8.acceptRanges", laid_unicode_utf8_acceptRanges), ("unicode.CaseRanges", laid_unicode_CaseRanges), ("unicode/utf8.first", laid_unicode_utf8_first)] }
def FnIsNumberPrefixClosedSaid : Prop := fnIsNumberPrefixClosedRow.holds Tryd.pinned (OpenSpec.ofChange fnIsNumberPrefixClosedSpec)

/-- ITS FALSE NEIGHBOUR: 'it returns false'. Refute it at one input. -/
def fnIsNumberPrefixClosedWrong : ChangeSpec := { name := "fnIsNumberPrefixClosed", fn := fun _ => fun
  | [d1, d2] => { results := [.lit (.bool false)], args := [d1, d2] }
  | _ => none }
def FnIsNumberPrefixClosedWrongFalsely : Prop := fnIsNumberPrefixClosedRow.holds Tryd.pinned (OpenSpec.ofChange fnIsNumberPrefixClosedWrong)

end Rows
end Go.Proofs.Qxb6601037aDoor
