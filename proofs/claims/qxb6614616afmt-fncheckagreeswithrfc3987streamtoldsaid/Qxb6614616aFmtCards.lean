/-
  DERIVED. GIVEN WITH THE SEED: THE CARDS: each row of Qxb6614616aFmtRows.lean that lists a variable, with what it lists TIED to the program's text (the seventh form; the later family's looks); each row that meets fmt, with fmt's text TOLD by the authors' own Lean function (tested against real Go, not proved from fmt's source: count such statements apart). THE CARD IS WHAT COUNTS. Prove the row's statement (the work); the ties are given (Qxb6614616aFmtTie.lean); close each card by the builder's one call (the guide's Derived/Test/ToyasCard.lean, 'card_holds'). Laid BY PROGRAM, IN A SANDBOX (cutbox-door.mjs). By AI agents, Wed Nov 11 2026. No macro, syntax, notation, axiom, sorry.
-/
import Derived.Test.Qxb6614616aFmtRows
import GoSem.ClaimSeven
namespace Go.Proofs.Qxb6614616aFmt
namespace Rows

/-- THE TOLD AND TIED CARD OF 'zzlaws_internal_iri_b1.FnCheckAgreesWithRFC3987Stream'. -/
def fnCheckAgreesWithRFC3987StreamCard : Claim7 := { stood := { row := fnCheckAgreesWithRFC3987StreamRow, standIns := [], harness := (true, "b5ce14e125697e3f7fa3df46e40387df4a5a3b5dcaba7f2267043d4f72dd3b76"), looks := false }, told := true, laidByText := true, laidKinds := [.data, .pinned], laidTests := true, laidLooks := .later, goes := false }
def FnCheckAgreesWithRFC3987StreamToldSaid : Prop := Claim7.holds Tryf.pinned (.plain (OpenSpec.ofChange fnCheckAgreesWithRFC3987StreamSpec)) fnCheckAgreesWithRFC3987StreamCard
/-- ITS FALSE NEIGHBOUR. Refute it at one input. -/
def FnCheckAgreesWithRFC3987StreamToldWrongFalsely : Prop := Claim7.holds Tryf.pinned (.plain (OpenSpec.ofChange fnCheckAgreesWithRFC3987StreamWrong)) fnCheckAgreesWithRFC3987StreamCard

/-- THE TOLD AND TIED CARD OF 'zzlaws_internal_iri_b1.FnCheckPrivateUseOnlyInQuery'. -/
def fnCheckPrivateUseOnlyInQueryCard : Claim7 := { stood := { row := fnCheckPrivateUseOnlyInQueryRow, standIns := [], harness := (true, "b5ce14e125697e3f7fa3df46e40387df4a5a3b5dcaba7f2267043d4f72dd3b76"), looks := false }, told := true, laidByText := true, laidKinds := [.data, .pinned], laidTests := true, laidLooks := .later, goes := false }
def FnCheckPrivateUseOnlyInQueryToldSaid : Prop := Claim7.holds Tryf.pinned (.plain (OpenSpec.ofChange fnCheckPrivateUseOnlyInQuerySpec)) fnCheckPrivateUseOnlyInQueryCard
/-- ITS FALSE NEIGHBOUR. Refute it at one input. -/
def FnCheckPrivateUseOnlyInQueryToldWrongFalsely : Prop := Claim7.holds Tryf.pinned (.plain (OpenSpec.ofChange fnCheckPrivateUseOnlyInQueryWrong)) fnCheckPrivateUseOnlyInQueryCard
end Rows
end Go.Proofs.Qxb6614616aFmt
