/-
  DERIVED. GIVEN WITH THE SEED: THE CARDS: each row of Qxb6614386aDoorRows.lean that lists a variable, with what it lists TIED to the program's text (the seventh form; the later family's looks); each row that meets fmt, with fmt's text TOLD by the authors' own Lean function (tested against real Go, not proved from fmt's source: count such statements apart). THE CARD IS WHAT COUNTS. Prove the row's statement (the work); the ties are given (Qxb6614386aDoorTie.lean); close each card by the builder's one call (the guide's Derived/Test/ToyasCard.lean, 'card_holds'). Laid BY PROGRAM, IN A SANDBOX (cutbox-door.mjs). By AI agents, Wed Nov 11 2026. No macro, syntax, notation, axiom, sorry.
-/
import Derived.Test.Qxb6614386aDoorRows
import GoSem.ClaimSeven
namespace Go.Proofs.Qxb6614386aDoor
namespace Rows

/-- THE TIED CARD OF 'zzlaws_server_b1.FnMillisecondsExactAndTellsMicroseconds'. -/
def fnMillisecondsExactAndTellsMicrosecondsCard : Claim7 := { stood := { row := fnMillisecondsExactAndTellsMicrosecondsRow, standIns := [], harness := (true, "155a746eb2fae8ea073ab8368c5032d2adce9a4140a585a56e063ec1b3bf05a6"), looks := false }, kinds := [], alts := [], laidByText := true, laidKinds := [.data, .data, .data, .data, .pinned, .pinned], laidTests := true, laidLooks := .later }
def FnMillisecondsExactAndTellsMicrosecondsCardSaid : Prop := Claim7.holds Tryd.pinned (.plain (OpenSpec.ofChange fnMillisecondsExactAndTellsMicrosecondsSpec)) fnMillisecondsExactAndTellsMicrosecondsCard

/-- THE TIED CARD OF 'zzlaws_server_b1.FnMillisecondsNegationAddsMinus'. -/
def fnMillisecondsNegationAddsMinusCard : Claim7 := { stood := { row := fnMillisecondsNegationAddsMinusRow, standIns := [], harness := (true, "155a746eb2fae8ea073ab8368c5032d2adce9a4140a585a56e063ec1b3bf05a6"), looks := false }, kinds := [], alts := [], laidByText := true, laidKinds := [.data, .data, .data, .data, .pinned, .pinned], laidTests := true, laidLooks := .later }
def FnMillisecondsNegationAddsMinusCardSaid : Prop := Claim7.holds Tryd.pinned (.plain (OpenSpec.ofChange fnMillisecondsNegationAddsMinusSpec)) fnMillisecondsNegationAddsMinusCard
end Rows
end Go.Proofs.Qxb6614386aDoor
