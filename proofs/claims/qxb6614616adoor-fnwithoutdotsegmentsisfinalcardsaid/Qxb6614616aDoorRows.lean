/-
  NARROWER THAN 'FOR EVERY INPUT', by the rows' own cells (each row's printed sentence says how): FnWithoutDotSegmentsActsOnThePathAlone: laid · FnWithoutDotSegmentsIsFinal: laid.
  DERIVED. THE GIVEN ROWS OF THIS SEAT. 2 by the template 'for every input the law returns true; each argument reads behind the call as it read before'; 0 by the template 'total and deterministic' (their statements: Qxb6614616aDoorTotals.lean).
  GIVEN WITH THE SEED: the statements are not yours to turn. If you find one false, say at which input.
  Laid BY PROGRAM, IN A SANDBOX (cutbox-rows.mjs): the forced cells as the released guide's own fill.sh prints them over the translation 09f0bd032ced1863… (all of the seat's roots in one cut). By AI agents, Wed Nov 11 2026. No macro, syntax, notation, axiom, sorry.
-/
import Derived.Test.Qxb6614616aDoorChecked
import GoSem.PinnedTables
import GoSem.Claim
import GoSem.ClaimJoined
import GoSem.ClaimMapViews
import Derived.JoinedTies
import Derived.KernelRfl
namespace Go.Proofs.Qxb6614616aDoor
/- THE CELL 'sum', in the pinned program and in every row, IS THE sha256 OF THE DUMP (.gsa) THAT Qxb6614616aDoorProg.lean LOADS. Nothing in Lean hashes anything: it is a label: what it is worth is what the hold of that sum in a sandbox is worth. -/
noncomputable def Tryd.pinned : Pinned := { name := "qxb6614616adoor", sum := "09f0bd032ced1863f3ee7d62902fac705eb6ae09c5873072fd5e7a4a3f4e8dad", checked := Tryd.checked }
namespace Rows
def none {H : Type} : Left H := { results := [], args := [] }

/- WHAT THE LISTED PACKAGE-LEVEL VARIABLES READ AS WHEN THE CALL BEGINS. Each datum BY PROGRAM (the guide's laid-datum.mjs) off the statement by which the dump's own 'gosem.cut.vars' lays the variable. In a bare row this is a premise. The card (Qxb6614616aDoorCards.lean) ties it to the program's text. -/
def laid_unicode_utf8_acceptRanges {H : Type} : DataW H := .agg [.agg [.lit (.int .u8 128), .lit (.int .u8 191)], .agg [.lit (.int .u8 160), .lit (.int .u8 191)], .agg [.lit (.int .u8 128), .lit (.int .u8 159)], .agg [.lit (.int .u8 144), .lit (.int .u8 191)], .agg [.lit (.int .u8 128), .lit (.int .u8 143)], .agg [.lit (.int .u8 0), .lit (.int .u8 0)], .agg [.lit (.int .u8 0), .lit (.int .u8 0)], .agg [.lit (.int .u8 0), .lit (.int .u8 0)], .agg [.lit (.int .u8 0), .lit (.int .u8 0)], .agg [.lit (.int .u8 0), .lit (.int .u8 0)], .agg [.lit (.int .u8 0), .lit (.int .u8 0)], .agg [.lit (.int .u8 0), .lit (.int .u8 0)], .agg [.lit (.int .u8 0), .lit (.int .u8 0)], .agg [.lit (.int .u8 0), .lit (.int .u8 0)], .agg [.lit (.int .u8 0), .lit (.int .u8 0)], .agg [.lit (.int .u8 0), .lit (.int .u8 0)]]
/-- One of Go's own tables, pinned by name: the form's constant. -/
def laid_unicode_utf8_first : DataW Unit := Go.Pinned.utf8First

/-- 'zzlaws_internal_iri_b1.FnWithoutDotSegmentsActsOnThePathAlone': WHATEVER THE INPUT: true; the input reads as it did. -/
def fnWithoutDotSegmentsActsOnThePathAloneSpec : ChangeSpec := { name := "fnWithoutDotSegmentsActsOnThePathAlone", fn := fun _ => fun
  | [d1, d2, d3, d4, d5, d6, d7, d8, d9, d10] => { results := [.lit (.bool true)], args := [d1, d2, d3, d4, d5, d6, d7, d8, d9, d10] }
  | _ => none }
def fnWithoutDotSegmentsActsOnThePathAloneRow : OpenClaim := { program := "qxb6614616adoor", sum := "09f0bd032ced1863f3ee7d62902fac705eb6ae09c5873072fd5e7a4a3f4e8dad", func := "example.com/grant-check/grant-check/zzlaws_internal_iri_b1.FnWithoutDotSegmentsActsOnThePathAlone", spec := "fnWithoutDotSegmentsActsOnThePathAlone", inPlace := ["internal/bytealg.IndexByteString", "internal/bytealg.IndexString", "internal/abi.NoEscape"], unfollowed := true, recurses := true, named := ["unicode/utf8.first", "unicode/utf8.acceptRanges", "internal/bytealg.MaxLen"], apart := false, laid := [("unicode/utf8.acceptRanges", laid_unicode_utf8_acceptRanges), ("unicode/utf8.first", laid_unicode_utf8_first)] }
def FnWithoutDotSegmentsActsOnThePathAloneSaid : Prop := fnWithoutDotSegmentsActsOnThePathAloneRow.holds Tryd.pinned (OpenSpec.ofChange fnWithoutDotSegmentsActsOnThePathAloneSpec)

/-- ITS FALSE NEIGHBOUR: 'it returns false'. Refute it at one input. -/
def fnWithoutDotSegmentsActsOnThePathAloneWrong : ChangeSpec := { name := "fnWithoutDotSegmentsActsOnThePathAlone", fn := fun _ => fun
  | [d1, d2, d3, d4, d5, d6, d7, d8, d9, d10] => { results := [.lit (.bool false)], args := [d1, d2, d3, d4, d5, d6, d7, d8, d9, d10] }
  | _ => none }
def FnWithoutDotSegmentsActsOnThePathAloneWrongFalsely : Prop := fnWithoutDotSegmentsActsOnThePathAloneRow.holds Tryd.pinned (OpenSpec.ofChange fnWithoutDotSegmentsActsOnThePathAloneWrong)

/-- 'zzlaws_internal_iri_b1.FnWithoutDotSegmentsIsFinal': WHATEVER THE INPUT: true; the input reads as it did. -/
def fnWithoutDotSegmentsIsFinalSpec : ChangeSpec := { name := "fnWithoutDotSegmentsIsFinal", fn := fun _ => fun
  | [d1, d2, d3, d4, d5, d6, d7, d8, d9, d10] => { results := [.lit (.bool true)], args := [d1, d2, d3, d4, d5, d6, d7, d8, d9, d10] }
  | _ => none }
def fnWithoutDotSegmentsIsFinalRow : OpenClaim := { program := "qxb6614616adoor", sum := "09f0bd032ced1863f3ee7d62902fac705eb6ae09c5873072fd5e7a4a3f4e8dad", func := "example.com/grant-check/grant-check/zzlaws_internal_iri_b1.FnWithoutDotSegmentsIsFinal", spec := "fnWithoutDotSegmentsIsFinal", inPlace := ["internal/bytealg.IndexByteString", "internal/bytealg.IndexString", "internal/abi.NoEscape"], unfollowed := true, recurses := true, named := ["unicode/utf8.first", "unicode/utf8.acceptRanges", "internal/bytealg.MaxLen"], apart := false, laid := [("unicode/utf8.acceptRanges", laid_unicode_utf8_acceptRanges), ("unicode/utf8.first", laid_unicode_utf8_first)] }
def FnWithoutDotSegmentsIsFinalSaid : Prop := fnWithoutDotSegmentsIsFinalRow.holds Tryd.pinned (OpenSpec.ofChange fnWithoutDotSegmentsIsFinalSpec)

/-- ITS FALSE NEIGHBOUR: 'it returns false'. Refute it at one input. -/
def fnWithoutDotSegmentsIsFinalWrong : ChangeSpec := { name := "fnWithoutDotSegmentsIsFinal", fn := fun _ => fun
  | [d1, d2, d3, d4, d5, d6, d7, d8, d9, d10] => { results := [.lit (.bool false)], args := [d1, d2, d3, d4, d5, d6, d7, d8, d9, d10] }
  | _ => none }
def FnWithoutDotSegmentsIsFinalWrongFalsely : Prop := fnWithoutDotSegmentsIsFinalRow.holds Tryd.pinned (OpenSpec.ofChange fnWithoutDotSegmentsIsFinalWrong)

end Rows
end Go.Proofs.Qxb6614616aDoor
