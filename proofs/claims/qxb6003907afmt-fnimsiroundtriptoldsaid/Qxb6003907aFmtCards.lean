/-
  DERIVED. GIVEN WITH THE SEED: THE CARDS: each row of Qxb6003907aFmtRows.lean that lists a variable, with what it lists TIED to the program's text (the seventh form; the later family's looks); each row that meets fmt, with fmt's text TOLD by the authors' own Lean function (tested against real Go, not proved from fmt's source: count such statements apart). THE CARD IS WHAT COUNTS. Prove the row's statement (the work); the ties are given (Qxb6003907aFmtTie.lean); close each card by the builder's one call (the guide's Derived/Test/ToyasCard.lean, 'card_holds'). Laid BY PROGRAM, IN A SANDBOX (cutbox-door.mjs). By AI agents, Wed Nov 11 2026. No macro, syntax, notation, axiom, sorry.
-/
import Derived.Test.Qxb6003907aFmtRows
import GoSem.ClaimSeven
namespace Go.Proofs.Qxb6003907aFmt
namespace Rows

/-- THE TOLD CARD OF 'zzlaws_gtp_g1.FnAppendExtAcceptsExactly'. -/
def fnAppendExtAcceptsExactlyCard : Claim7 := { stood := { row := fnAppendExtAcceptsExactlyRow, standIns := [], harness := (true, "ec10f7e24cf52ae0211ec8d5c279afee2e112cf3cb3ec840b4e07d269edbecf8"), looks := false }, told := true, goes := false }
def FnAppendExtAcceptsExactlyToldSaid : Prop := Claim7.holds Tryf.pinned (.plain (OpenSpec.ofChange fnAppendExtAcceptsExactlySpec)) fnAppendExtAcceptsExactlyCard
/-- ITS FALSE NEIGHBOUR. Refute it at one input. -/
def FnAppendExtAcceptsExactlyToldWrongFalsely : Prop := Claim7.holds Tryf.pinned (.plain (OpenSpec.ofChange fnAppendExtAcceptsExactlyWrong)) fnAppendExtAcceptsExactlyCard

/-- THE TOLD CARD OF 'zzlaws_gtp_g1.FnAppendExtChainReadsBack'. -/
def fnAppendExtChainReadsBackCard : Claim7 := { stood := { row := fnAppendExtChainReadsBackRow, standIns := [], harness := (true, "ec10f7e24cf52ae0211ec8d5c279afee2e112cf3cb3ec840b4e07d269edbecf8"), looks := false }, told := true, goes := false }
def FnAppendExtChainReadsBackToldSaid : Prop := Claim7.holds Tryf.pinned (.plain (OpenSpec.ofChange fnAppendExtChainReadsBackSpec)) fnAppendExtChainReadsBackCard
/-- ITS FALSE NEIGHBOUR. Refute it at one input. -/
def FnAppendExtChainReadsBackToldWrongFalsely : Prop := Claim7.holds Tryf.pinned (.plain (OpenSpec.ofChange fnAppendExtChainReadsBackWrong)) fnAppendExtChainReadsBackCard

/-- THE TOLD AND TIED CARD OF 'zzlaws_gtp_g1.FnIMSIRoundTrip'. -/
def fnIMSIRoundTripCard : Claim7 := { stood := { row := fnIMSIRoundTripRow, standIns := [], harness := (true, "ec10f7e24cf52ae0211ec8d5c279afee2e112cf3cb3ec840b4e07d269edbecf8"), looks := false }, told := true, laidByText := true, laidKinds := [.data, .pinned], laidTests := true, laidLooks := .later, goes := false }
def FnIMSIRoundTripToldSaid : Prop := Claim7.holds Tryf.pinned (.plain (OpenSpec.ofChange fnIMSIRoundTripSpec)) fnIMSIRoundTripCard
/-- ITS FALSE NEIGHBOUR. Refute it at one input. -/
def FnIMSIRoundTripToldWrongFalsely : Prop := Claim7.holds Tryf.pinned (.plain (OpenSpec.ofChange fnIMSIRoundTripWrong)) fnIMSIRoundTripCard

/-- THE TOLD AND TIED CARD OF 'zzlaws_gtp_g1.FnIMSIValueReencodes'. -/
def fnIMSIValueReencodesCard : Claim7 := { stood := { row := fnIMSIValueReencodesRow, standIns := [], harness := (true, "ec10f7e24cf52ae0211ec8d5c279afee2e112cf3cb3ec840b4e07d269edbecf8"), looks := false }, told := true, laidByText := true, laidKinds := [.data, .pinned], laidTests := true, laidLooks := .later, goes := false }
def FnIMSIValueReencodesToldSaid : Prop := Claim7.holds Tryf.pinned (.plain (OpenSpec.ofChange fnIMSIValueReencodesSpec)) fnIMSIValueReencodesCard
/-- ITS FALSE NEIGHBOUR. Refute it at one input. -/
def FnIMSIValueReencodesToldWrongFalsely : Prop := Claim7.holds Tryf.pinned (.plain (OpenSpec.ofChange fnIMSIValueReencodesWrong)) fnIMSIValueReencodesCard
end Rows
end Go.Proofs.Qxb6003907aFmt
