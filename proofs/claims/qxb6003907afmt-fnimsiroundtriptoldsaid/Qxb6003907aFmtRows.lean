/-
  NARROWER THAN 'FOR EVERY INPUT', by the rows' own cells (each row's printed sentence says how): FnIMSIRoundTrip: laid · FnIMSIValueReencodes: laid.
  DERIVED. THE GIVEN ROWS OF THIS SEAT. 4 by the template 'for every input the law returns true; each argument reads behind the call as it read before'; 0 by the template 'total and deterministic' (their statements: Qxb6003907aFmtTotals.lean).
  GIVEN WITH THE SEED: the statements are not yours to turn. If you find one false, say at which input.
  Laid BY PROGRAM, IN A SANDBOX (cutbox-rows.mjs): the forced cells as the released guide's own fill.sh prints them over the translation 4b5312ee545a3ffd… (all of the seat's roots in one cut). By AI agents, Wed Nov 11 2026. No macro, syntax, notation, axiom, sorry.
-/
import Derived.Test.Qxb6003907aFmtChecked
import GoSem.PinnedTables
import GoSem.Claim
import GoSem.ClaimJoined
import GoSem.ClaimMapViews
import Derived.JoinedTies
import Derived.KernelRfl
namespace Go.Proofs.Qxb6003907aFmt
/- THE CELL 'sum', in the pinned program and in every row, IS THE sha256 OF THE DUMP (.gsa) THAT Qxb6003907aFmtProg.lean LOADS. Nothing in Lean hashes anything: it is a label: what it is worth is what the hold of that sum in a sandbox is worth. -/
noncomputable def Tryf.pinned : Pinned := { name := "qxb6003907afmt", sum := "4b5312ee545a3ffd3f3dfba663d71b6c1a7b9a2a8561fbbc6c44b27eb82b18b6", checked := Tryf.checked }
namespace Rows
def none {H : Type} : Left H := { results := [], args := [] }

/- WHAT THE LISTED PACKAGE-LEVEL VARIABLES READ AS WHEN THE CALL BEGINS. Each datum BY PROGRAM (the guide's laid-datum.mjs) off the statement by which the dump's own 'gosem.cut.vars' lays the variable. In a bare row this is a premise. The card (Qxb6003907aFmtCards.lean) ties it to the program's text. -/
def laid_unicode_utf8_acceptRanges {H : Type} : DataW H := .agg [.agg [.lit (.int .u8 128), .lit (.int .u8 191)], .agg [.lit (.int .u8 160), .lit (.int .u8 191)], .agg [.lit (.int .u8 128), .lit (.int .u8 159)], .agg [.lit (.int .u8 144), .lit (.int .u8 191)], .agg [.lit (.int .u8 128), .lit (.int .u8 143)], .agg [.lit (.int .u8 0), .lit (.int .u8 0)], .agg [.lit (.int .u8 0), .lit (.int .u8 0)], .agg [.lit (.int .u8 0), .lit (.int .u8 0)], .agg [.lit (.int .u8 0), .lit (.int .u8 0)], .agg [.lit (.int .u8 0), .lit (.int .u8 0)], .agg [.lit (.int .u8 0), .lit (.int .u8 0)], .agg [.lit (.int .u8 0), .lit (.int .u8 0)], .agg [.lit (.int .u8 0), .lit (.int .u8 0)], .agg [.lit (.int .u8 0), .lit (.int .u8 0)], .agg [.lit (.int .u8 0), .lit (.int .u8 0)], .agg [.lit (.int .u8 0), .lit (.int .u8 0)]]
/-- One of Go's own tables, pinned by name: the form's constant. -/
def laid_unicode_utf8_first : DataW Unit := Go.Pinned.utf8First

/-- 'zzlaws_gtp_g1.FnAppendExtAcceptsExactly': WHATEVER THE INPUT: true; the input reads as it did. -/
def fnAppendExtAcceptsExactlySpec : ChangeSpec := { name := "fnAppendExtAcceptsExactly", fn := fun _ => fun
  | [d1, d2, d3, d4, d5] => { results := [.lit (.bool true)], args := [d1, d2, d3, d4, d5] }
  | _ => none }
def fnAppendExtAcceptsExactlyRow : OpenClaim := { program := "qxb6003907afmt", sum := "4b5312ee545a3ffd3f3dfba663d71b6c1a7b9a2a8561fbbc6c44b27eb82b18b6", func := "example.com/tunnelwright/tunnelwright/zzlaws_gtp_g1.FnAppendExtAcceptsExactly", spec := "fnAppendExtAcceptsExactly", stops := ["fmt.errorf"], inPlace := ["fmt.errorf"], apart := false }
/-- NO THEOREM (fmt's text is open here; it may be false): for the released tool's asking of the row's closed facts alone. THE STATEMENT IS 'FnAppendExtAcceptsExactlyToldSaid' (Qxb6003907aFmtCards.lean). -/
def FnAppendExtAcceptsExactlyFormAsk : Prop := fnAppendExtAcceptsExactlyRow.holds Tryf.pinned (OpenSpec.ofChange fnAppendExtAcceptsExactlySpec)

/-- ITS FALSE NEIGHBOUR: 'it returns false'. Refute it at one input. -/
def fnAppendExtAcceptsExactlyWrong : ChangeSpec := { name := "fnAppendExtAcceptsExactly", fn := fun _ => fun
  | [d1, d2, d3, d4, d5] => { results := [.lit (.bool false)], args := [d1, d2, d3, d4, d5] }
  | _ => none }
def FnAppendExtAcceptsExactlyWrongFormAsk : Prop := fnAppendExtAcceptsExactlyRow.holds Tryf.pinned (OpenSpec.ofChange fnAppendExtAcceptsExactlyWrong)

/-- 'zzlaws_gtp_g1.FnAppendExtChainReadsBack': WHATEVER THE INPUT: true; the input reads as it did. -/
def fnAppendExtChainReadsBackSpec : ChangeSpec := { name := "fnAppendExtChainReadsBack", fn := fun _ => fun
  | [d1, d2, d3, d4, d5] => { results := [.lit (.bool true)], args := [d1, d2, d3, d4, d5] }
  | _ => none }
def fnAppendExtChainReadsBackRow : OpenClaim := { program := "qxb6003907afmt", sum := "4b5312ee545a3ffd3f3dfba663d71b6c1a7b9a2a8561fbbc6c44b27eb82b18b6", func := "example.com/tunnelwright/tunnelwright/zzlaws_gtp_g1.FnAppendExtChainReadsBack", spec := "fnAppendExtChainReadsBack", stops := ["fmt.errorf"], inPlace := ["fmt.errorf"], apart := false }
/-- NO THEOREM (fmt's text is open here; it may be false): for the released tool's asking of the row's closed facts alone. THE STATEMENT IS 'FnAppendExtChainReadsBackToldSaid' (Qxb6003907aFmtCards.lean). -/
def FnAppendExtChainReadsBackFormAsk : Prop := fnAppendExtChainReadsBackRow.holds Tryf.pinned (OpenSpec.ofChange fnAppendExtChainReadsBackSpec)

/-- ITS FALSE NEIGHBOUR: 'it returns false'. Refute it at one input. -/
def fnAppendExtChainReadsBackWrong : ChangeSpec := { name := "fnAppendExtChainReadsBack", fn := fun _ => fun
  | [d1, d2, d3, d4, d5] => { results := [.lit (.bool false)], args := [d1, d2, d3, d4, d5] }
  | _ => none }
def FnAppendExtChainReadsBackWrongFormAsk : Prop := fnAppendExtChainReadsBackRow.holds Tryf.pinned (OpenSpec.ofChange fnAppendExtChainReadsBackWrong)

/-- 'zzlaws_gtp_g1.FnIMSIRoundTrip': WHATEVER THE INPUT: true; the input reads as it did. -/
def fnIMSIRoundTripSpec : ChangeSpec := { name := "fnIMSIRoundTrip", fn := fun _ => fun
  | [d1, d2] => { results := [.lit (.bool true)], args := [d1, d2] }
  | _ => none }
def fnIMSIRoundTripRow : OpenClaim := { program := "qxb6003907afmt", sum := "4b5312ee545a3ffd3f3dfba663d71b6c1a7b9a2a8561fbbc6c44b27eb82b18b6", func := "example.com/tunnelwright/tunnelwright/zzlaws_gtp_g1.FnIMSIRoundTrip", spec := "fnIMSIRoundTrip", stops := ["fmt.errorf"], inPlace := ["internal/bytealg.IndexByteString", "internal/bytealg.IndexString", "fmt.errorf"], named := ["unicode/utf8.first", "unicode/utf8.acceptRanges", "internal/bytealg.MaxLen"], apart := false, laid := [("unicode/utf8.acceptRanges", laid_unicode_utf8_acceptRanges), ("unicode/utf8.first", laid_unicode_utf8_first)] }
/-- NO THEOREM (fmt's text is open here; it may be false): for the released tool's asking of the row's closed facts alone. THE STATEMENT IS 'FnIMSIRoundTripToldSaid' (Qxb6003907aFmtCards.lean). -/
def FnIMSIRoundTripFormAsk : Prop := fnIMSIRoundTripRow.holds Tryf.pinned (OpenSpec.ofChange fnIMSIRoundTripSpec)

/-- ITS FALSE NEIGHBOUR: 'it returns false'. Refute it at one input. -/
def fnIMSIRoundTripWrong : ChangeSpec := { name := "fnIMSIRoundTrip", fn := fun _ => fun
  | [d1, d2] => { results := [.lit (.bool false)], args := [d1, d2] }
  | _ => none }
def FnIMSIRoundTripWrongFormAsk : Prop := fnIMSIRoundTripRow.holds Tryf.pinned (OpenSpec.ofChange fnIMSIRoundTripWrong)

/-- 'zzlaws_gtp_g1.FnIMSIValueReencodes': WHATEVER THE INPUT: true; the input reads as it did. -/
def fnIMSIValueReencodesSpec : ChangeSpec := { name := "fnIMSIValueReencodes", fn := fun _ => fun
  | [d] => { results := [.lit (.bool true)], args := [d] }
  | _ => none }
def fnIMSIValueReencodesRow : OpenClaim := { program := "qxb6003907afmt", sum := "4b5312ee545a3ffd3f3dfba663d71b6c1a7b9a2a8561fbbc6c44b27eb82b18b6", func := "example.com/tunnelwright/tunnelwright/zzlaws_gtp_g1.FnIMSIValueReencodes", spec := "fnIMSIValueReencodes", stops := ["fmt.errorf"], inPlace := ["fmt.errorf", "internal/bytealg.IndexByteString", "internal/bytealg.IndexString"], named := ["unicode/utf8.first", "unicode/utf8.acceptRanges", "internal/bytealg.MaxLen"], apart := false, laid := [("unicode/utf8.acceptRanges", laid_unicode_utf8_acceptRanges), ("unicode/utf8.first", laid_unicode_utf8_first)] }
/-- NO THEOREM (fmt's text is open here; it may be false): for the released tool's asking of the row's closed facts alone. THE STATEMENT IS 'FnIMSIValueReencodesToldSaid' (Qxb6003907aFmtCards.lean). -/
def FnIMSIValueReencodesFormAsk : Prop := fnIMSIValueReencodesRow.holds Tryf.pinned (OpenSpec.ofChange fnIMSIValueReencodesSpec)

/-- ITS FALSE NEIGHBOUR: 'it returns false'. Refute it at one input. -/
def fnIMSIValueReencodesWrong : ChangeSpec := { name := "fnIMSIValueReencodes", fn := fun _ => fun
  | [d] => { results := [.lit (.bool false)], args := [d] }
  | _ => none }
def FnIMSIValueReencodesWrongFormAsk : Prop := fnIMSIValueReencodesRow.holds Tryf.pinned (OpenSpec.ofChange fnIMSIValueReencodesWrong)

end Rows
end Go.Proofs.Qxb6003907aFmt
