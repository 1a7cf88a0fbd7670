/-
  DERIVED. GIVEN WITH THE SEED: THE CARDS: each row of Qxb6601037aDoorRows.lean that lists a variable, with what it lists TIED to the program's text (the seventh form; the later family's looks); each row that meets fmt, with fmt's text TOLD by the authors' own Lean function (tested against real Go, not proved from fmt's source: count such statements apart). THE CARD IS WHAT COUNTS. Prove the row's statement (the work); the ties are given (Qxb6601037aDoorTie.lean); close each card by the builder's one call (the guide's Derived/Test/ToyasCard.lean, 'card_holds'). Laid BY PROGRAM, IN A SANDBOX (cutbox-door.mjs). By AI agents, Wed Nov 11 2026. No macro, syntax, notation, axiom, sorry.
-/
import Derived.Test.Qxb6601037aDoorRows
import GoSem.ClaimSeven
namespace Go.Proofs.Qxb6601037aDoor
namespace Rows

/-- THE TIED CARD OF 'zzlaws_weburl_b1.FnIsNumberMatchesByteModel'. -/
def fnIsNumberMatchesByteModelCard : Claim7 := { stood := { row := fnIsNumberMatchesByteModelRow, standIns := [], harness := (true, "6c225141e32b7b15793f6f3f719761540cde9f40d42a5cd07896dc5dbcbd046e"), looks := false }, kinds := [], alts := [], laidByText := true, laidKinds := [.data, .pinned, .pinned], laidTests := true, laidLooks := .later }
def FnIsNumberMatchesByteModelCardSaid : Prop := Claim7.holds Tryd.pinned (.plain (OpenSpec.ofChange fnIsNumberMatchesByteModelSpec)) fnIsNumberMatchesByteModelCard

/-- THE TIED CARD OF 'zzlaws_weburl_b1.FnIsNumberIgnoresASCIICase'. -/
def fnIsNumberIgnoresASCIICaseCard : Claim7 := { stood := { row := fnIsNumberIgnoresASCIICaseRow, standIns := [], harness := (true, "6c225141e32b7b15793f6f3f719761540cde9f40d42a5cd07896dc5dbcbd046e"), looks := false }, kinds := [], alts := [], laidByText := true, laidKinds := [.data, .pinned, .pinned], laidTests := true, laidLooks := .later }
def FnIsNumberIgnoresASCIICaseCardSaid : Prop := Claim7.holds Tryd.pinned (.plain (OpenSpec.ofChange fnIsNumberIgnoresASCIICaseSpec)) fnIsNumberIgnoresASCIICaseCard

/-- THE TIED CARD OF 'zzlaws_weburl_b1.FnIsNumberPrefixClosed'. -/
def fnIsNumberPrefixClosedCard : Claim7 := { stood := { row := fnIsNumberPrefixClosedRow, standIns := [], harness := (true, "6c225141e32b7b15793f6f3f719761540cde9f40d42a5cd07896dc5dbcbd046e"), looks := false }, kinds := [], alts := [], laidByText := true, laidKinds := [.data, .pinned, .pinned], laidTests := true, laidLooks := .later }
def FnIsNumberPrefixClosedCardSaid : Prop := Claim7.holds Tryd.pinned (.plain (OpenSpec.ofChange fnIsNumberPrefixClosedSpec)) fnIsNumberPrefixClosedCard
end Rows
end Go.Proofs.Qxb6601037aDoor
