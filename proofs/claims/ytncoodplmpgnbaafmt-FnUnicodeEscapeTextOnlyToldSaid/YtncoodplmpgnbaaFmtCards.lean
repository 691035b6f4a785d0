/-
  DERIVED. GIVEN WITH THE SEED: THE CARDS: each row of YtncoodplmpgnbaaFmtRows.lean that lists a variable, with what it lists TIED to the program's text (the seventh form; the later family's looks); each row that meets fmt, with fmt's text TOLD by the authors' own Lean function (tested against real Go, not proved from fmt's source: count such statements apart). THE CARD IS WHAT COUNTS. Prove the row's statement (the work); the ties are given (YtncoodplmpgnbaaFmtTie.lean); close each card by the builder's one call (the guide's Derived/Test/ToyasCard.lean, 'card_holds'). Laid BY PROGRAM, IN A SANDBOX (cutbox-door.mjs). By AI agents, Wed Nov 11 2026. No macro, syntax, notation, axiom, sorry.
-/
import Derived.Test.YtncoodplmpgnbaaFmtRows
import GoSem.ClaimSeven
namespace Go.Proofs.YtncoodplmpgnbaaFmt
namespace Rows

/-- THE TOLD AND TIED CARD OF 'n003_106.FnUnescapeRefusals'. -/
def fnUnescapeRefusalsCard : Claim7 := { stood := { row := fnUnescapeRefusalsRow, standIns := [], harness := (true, "2351f993968a4e0c5b2091af70020d0910227905e03575c9de0ecb9369fb2f26"), looks := false }, told := true, laidByText := true, laidKinds := [.data, .pinned], laidTests := true, laidLooks := .later, goes := false }
def FnUnescapeRefusalsToldSaid : Prop := Claim7.holds Tryf.pinned (.plain (OpenSpec.ofChange fnUnescapeRefusalsSpec)) fnUnescapeRefusalsCard
/-- ITS FALSE NEIGHBOUR. Refute it at one input. -/
def FnUnescapeRefusalsToldWrongFalsely : Prop := Claim7.holds Tryf.pinned (.plain (OpenSpec.ofChange fnUnescapeRefusalsWrong)) fnUnescapeRefusalsCard

/-- THE TOLD AND TIED CARD OF 'n003_106.FnUnescapeBytesRoundTrip'. -/
def fnUnescapeBytesRoundTripCard : Claim7 := { stood := { row := fnUnescapeBytesRoundTripRow, standIns := [], harness := (true, "2351f993968a4e0c5b2091af70020d0910227905e03575c9de0ecb9369fb2f26"), looks := false }, told := true, laidByText := true, laidKinds := [.data, .pinned], laidTests := true, laidLooks := .later, goes := false }
def FnUnescapeBytesRoundTripToldSaid : Prop := Claim7.holds Tryf.pinned (.plain (OpenSpec.ofChange fnUnescapeBytesRoundTripSpec)) fnUnescapeBytesRoundTripCard
/-- ITS FALSE NEIGHBOUR. Refute it at one input. -/
def FnUnescapeBytesRoundTripToldWrongFalsely : Prop := Claim7.holds Tryf.pinned (.plain (OpenSpec.ofChange fnUnescapeBytesRoundTripWrong)) fnUnescapeBytesRoundTripCard

/-- THE TOLD AND TIED CARD OF 'n003_106.FnUnescapeRoundTrip'. -/
def fnUnescapeRoundTripCard : Claim7 := { stood := { row := fnUnescapeRoundTripRow, standIns := [], harness := (true, "2351f993968a4e0c5b2091af70020d0910227905e03575c9de0ecb9369fb2f26"), looks := false }, told := true, laidByText := true, laidKinds := [.data, .pinned], laidTests := true, laidLooks := .later, goes := false }
def FnUnescapeRoundTripToldSaid : Prop := Claim7.holds Tryf.pinned (.plain (OpenSpec.ofChange fnUnescapeRoundTripSpec)) fnUnescapeRoundTripCard
/-- ITS FALSE NEIGHBOUR. Refute it at one input. -/
def FnUnescapeRoundTripToldWrongFalsely : Prop := Claim7.holds Tryf.pinned (.plain (OpenSpec.ofChange fnUnescapeRoundTripWrong)) fnUnescapeRoundTripCard

/-- THE TOLD AND TIED CARD OF 'n003_106.FnUnicodeEscapeTextOnly'. -/
def fnUnicodeEscapeTextOnlyCard : Claim7 := { stood := { row := fnUnicodeEscapeTextOnlyRow, standIns := [], harness := (true, "2351f993968a4e0c5b2091af70020d0910227905e03575c9de0ecb9369fb2f26"), looks := false }, told := true, laidByText := true, laidKinds := [.data, .pinned], laidTests := true, laidLooks := .later, goes := false }
def FnUnicodeEscapeTextOnlyToldSaid : Prop := Claim7.holds Tryf.pinned (.plain (OpenSpec.ofChange fnUnicodeEscapeTextOnlySpec)) fnUnicodeEscapeTextOnlyCard
/-- ITS FALSE NEIGHBOUR. Refute it at one input. -/
def FnUnicodeEscapeTextOnlyToldWrongFalsely : Prop := Claim7.holds Tryf.pinned (.plain (OpenSpec.ofChange fnUnicodeEscapeTextOnlyWrong)) fnUnicodeEscapeTextOnlyCard
end Rows
end Go.Proofs.YtncoodplmpgnbaaFmt
