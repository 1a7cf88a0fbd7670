/-
  DERIVED. GIVEN WITH THE SEED: THE CARDS: each row of Qxb6614616aDoorRows.lean that lists a variable, with what it lists TIED to the program's text (the seventh form; the later family's looks); each row that meets fmt, with fmt's text TOLD by the authors' own Lean function (tested against real Go, not proved from fmt's source: count such statements apart). THE CARD IS WHAT COUNTS. Prove the row's statement (the work); the ties are given (Qxb6614616aDoorTie.lean); close each card by the builder's one call (the guide's Derived/Test/ToyasCard.lean, 'card_holds'). Laid BY PROGRAM, IN A SANDBOX (cutbox-door.mjs). By AI agents, Wed Nov 11 2026. No macro, syntax, notation, axiom, sorry.
-/
import Derived.Test.Qxb6614616aDoorRows
import GoSem.ClaimSeven
namespace Go.Proofs.Qxb6614616aDoor
namespace Rows

/-- THE TIED CARD OF 'zzlaws_internal_iri_b1.FnWithoutDotSegmentsActsOnThePathAlone'. -/
def fnWithoutDotSegmentsActsOnThePathAloneCard : Claim7 := { stood := { row := fnWithoutDotSegmentsActsOnThePathAloneRow, standIns := [], harness := (true, "f8365f89a90542c88ae220d81b1cc034e3f4d6276c8afa8583c5c8edcfbba714"), looks := false }, kinds := [], alts := [], laidByText := true, laidKinds := [.data, .pinned], laidTests := true, laidLooks := .later }
def FnWithoutDotSegmentsActsOnThePathAloneCardSaid : Prop := Claim7.holds Tryd.pinned (.plain (OpenSpec.ofChange fnWithoutDotSegmentsActsOnThePathAloneSpec)) fnWithoutDotSegmentsActsOnThePathAloneCard

/-- THE TIED CARD OF 'zzlaws_internal_iri_b1.FnWithoutDotSegmentsIsFinal'. -/
def fnWithoutDotSegmentsIsFinalCard : Claim7 := { stood := { row := fnWithoutDotSegmentsIsFinalRow, standIns := [], harness := (true, "f8365f89a90542c88ae220d81b1cc034e3f4d6276c8afa8583c5c8edcfbba714"), looks := false }, kinds := [], alts := [], laidByText := true, laidKinds := [.data, .pinned], laidTests := true, laidLooks := .later }
def FnWithoutDotSegmentsIsFinalCardSaid : Prop := Claim7.holds Tryd.pinned (.plain (OpenSpec.ofChange fnWithoutDotSegmentsIsFinalSpec)) fnWithoutDotSegmentsIsFinalCard
end Rows
end Go.Proofs.Qxb6614616aDoor
