/-
  NARROWER THAN 'FOR EVERY INPUT', by the rows' own cells (each row's printed sentence says how): FnCheckAgreesWithRFC3987Stream: laid · FnCheckPrivateUseOnlyInQuery: laid.
  DERIVED. THE GIVEN ROWS OF THIS SEAT. 2 by the template 'for every input the law returns true; each argument reads behind the call as it read before'; 0 by the template 'total and deterministic' (their statements: Qxb6614616aFmtTotals.lean).
  GIVEN WITH THE SEED: the statements are not yours to turn. If you find one false, say at which input.
  Laid BY PROGRAM, IN A SANDBOX (cutbox-rows.mjs): the forced cells as the released guide's own fill.sh prints them over the translation f5539be4171900f1… (all of the seat's roots in one cut). By AI agents, Wed Nov 11 2026. No macro, syntax, notation, axiom, sorry.
-/
import Derived.Test.Qxb6614616aFmtChecked
import GoSem.PinnedTables
import GoSem.Claim
import GoSem.ClaimJoined
import GoSem.ClaimMapViews
import Derived.JoinedTies
import Derived.KernelRfl
namespace Go.Proofs.Qxb6614616aFmt
/- THE CELL 'sum', in the pinned program and in every row, IS THE sha256 OF THE DUMP (.gsa) THAT Qxb6614616aFmtProg.lean LOADS. Nothing in Lean hashes anything: it is a label: what it is worth is what the hold of that sum in a sandbox is worth. -/
noncomputable def Tryf.pinned : Pinned := { name := "qxb6614616afmt", sum := "f5539be4171900f1aa9ca5424f2c3293113d188a80c9b87abf98666673a3ffbf", checked := Tryf.checked }
namespace Rows
def none {H : Type} : Left H := { results := [], args := [] }

/- WHAT THE LISTED PACKAGE-LEVEL VARIABLES READ AS WHEN THE CALL BEGINS. Each datum BY PROGRAM (the guide's laid-datum.mjs) off the statement by which the dump's own 'gosem.cut.vars' lays the variable. In a bare row this is a premise. The card (Qxb6614616aFmtCards.lean) ties it to the program's text. -/
def laid_unicode_utf8_acceptRanges {H : Type} : DataW H := .agg [.agg [.lit (.int .u8 128), .lit (.int .u8 191)], .agg [.lit (.int .u8 160), .lit (.int .u8 191)], .agg [.lit (.int .u8 128), .lit (.int .u8 159)], .agg [.lit (.int .u8 144), .lit (.int .u8 191)], .agg [.lit (.int .u8 128), .lit (.int .u8 143)], .agg [.lit (.int .u8 0), .lit (.int .u8 0)], .agg [.lit (.int .u8 0), .lit (.int .u8 0)], .agg [.lit (.int .u8 0), .lit (.int .u8 0)], .agg [.lit (.int .u8 0), .lit (.int .u8 0)], .agg [.lit (.int .u8 0), .lit (.int .u8 0)], .agg [.lit (.int .u8 0), .lit (.int .u8 0)], .agg [.lit (.int .u8 0), .lit (.int .u8 0)], .agg [.lit (.int .u8 0), .lit (.int .u8 0)], .agg [.lit (.int .u8 0), .lit (.int .u8 0)], .agg [.lit (.int .u8 0), .lit (.int .u8 0)], .agg [.lit (.int .u8 0), .lit (.int .u8 0)]]
/-- One of Go's own tables, pinned by name: the form's constant. -/
def laid_unicode_utf8_first : DataW Unit := Go.Pinned.utf8First

/-- 'zzlaws_internal_iri_b1.FnCheckAgreesWithRFC3987Stream': WHATEVER THE INPUT: true; the input reads as it did. -/
def fnCheckAgreesWithRFC3987StreamSpec : ChangeSpec := { name := "fnCheckAgreesWithRFC3987Stream", fn := fun _ => fun
  | [d1, d2, d3] => { results := [.lit (.bool true)], args := [d1, d2, d3] }
  | _ => none }
def fnCheckAgreesWithRFC3987StreamRow : OpenClaim := { program := "qxb6614616afmt", sum := "f5539be4171900f1aa9ca5424f2c3293113d188a80c9b87abf98666673a3ffbf", func := "example.com/grant-check/grant-check/zzlaws_internal_iri_b1.FnCheckAgreesWithRFC3987Stream", spec := "fnCheckAgreesWithRFC3987Stream", stops := ["fmt.errorf"], inPlace := ["fmt.errorf"], named := ["unicode/utf8.first", "unicode/utf8.acceptRanges"], apart := false, laid := [("unicode/utf8.acceptRanges", laid_unicode_utf8_acceptRanges), ("unicode/utf8.first", laid_unicode_utf8_first)] }
/-- NO THEOREM (fmt's text is open here; it may be false): for the released tool's asking of the row's closed facts alone. THE STATEMENT IS 'FnCheckAgreesWithRFC3987StreamToldSaid' (Qxb6614616aFmtCards.lean). -/
def FnCheckAgreesWithRFC3987StreamFormAsk : Prop := fnCheckAgreesWithRFC3987StreamRow.holds Tryf.pinned (OpenSpec.ofChange fnCheckAgreesWithRFC3987StreamSpec)

/-- ITS FALSE NEIGHBOUR: 'it returns false'. Refute it at one input. -/
def fnCheckAgreesWithRFC3987StreamWrong : ChangeSpec := { name := "fnCheckAgreesWithRFC3987Stream", fn := fun _ => fun
  | [d1, d2, d3] => { results := [.lit (.bool false)], args := [d1, d2, d3] }
  | _ => none }
def FnCheckAgreesWithRFC3987StreamWrongFormAsk : Prop := fnCheckAgreesWithRFC3987StreamRow.holds Tryf.pinned (OpenSpec.ofChange fnCheckAgreesWithRFC3987StreamWrong)

/-- 'zzlaws_internal_iri_b1.FnCheckPrivateUseOnlyInQuery': WHATEVER THE INPUT: true; the input reads as it did. -/
def fnCheckPrivateUseOnlyInQuerySpec : ChangeSpec := { name := "fnCheckPrivateUseOnlyInQuery", fn := fun _ => fun
  | [d] => { results := [.lit (.bool true)], args := [d] }
  | _ => none }
def fnCheckPrivateUseOnlyInQueryRow : OpenClaim := { program := "qxb6614616afmt", sum := "f5539be4171900f1aa9ca5424f2c3293113d188a80c9b87abf98666673a3ffbf", func := "example.com/grant-check/grant-check/zzlaws_internal_iri_b1.FnCheckPrivateUseOnlyInQuery", spec := "fnCheckPrivateUseOnlyInQuery", stops := ["fmt.errorf"], inPlace := ["fmt.errorf"], named := ["unicode/utf8.first", "unicode/utf8.acceptRanges"], apart := false, laid := [("unicode/utf8.acceptRanges", laid_unicode_utf8_acceptRanges), ("unicode/utf8.first", laid_unicode_utf8_first)] }
/-- NO THEOREM (fmt's text is open here; it may be false): for the released tool's asking of the row's closed facts alone. THE STATEMENT IS 'FnCheckPrivateUseOnlyInQueryToldSaid' (Qxb6614616aFmtCards.lean). -/
def FnCheckPrivateUseOnlyInQueryFormAsk : Prop := fnCheckPrivateUseOnlyInQueryRow.holds Tryf.pinned (OpenSpec.ofChange fnCheckPrivateUseOnlyInQuerySpec)

/-- ITS FALSE NEIGHBOUR: 'it returns false'. Refute it at one input. -/
def fnCheckPrivateUseOnlyInQueryWrong : ChangeSpec := { name := "fnCheckPrivateUseOnlyInQuery", fn := fun _ => fun
  | [d] => { results := [.lit (.bool false)], args := [d] }
  | _ => none }
def FnCheckPrivateUseOnlyInQueryWrongFormAsk : Prop := fnCheckPrivateUseOnlyInQueryRow.holds Tryf.pinned (OpenSpec.ofChange fnCheckPrivateUseOnlyInQueryWrong)

end Rows
end Go.Proofs.Qxb6614616aFmt
