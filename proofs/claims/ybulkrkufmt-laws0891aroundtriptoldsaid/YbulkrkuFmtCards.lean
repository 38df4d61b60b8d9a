/-
  DERIVED. GIVEN WITH THE SEED: THE CARDS: each row of YbulkrkuFmtRows.lean that lists a variable, with what it lists TIED to the program's text (the seventh form; the later family's looks); each row that meets fmt, with fmt's text TOLD by the authors' own Lean function (tested against real Go, not proved from fmt's source: count such statements apart). THE CARD IS WHAT COUNTS. Prove the row's statement (the work); the ties are given (YbulkrkuFmtTie.lean); close each card by the builder's one call (the guide's Derived/Test/ToyasCard.lean, 'card_holds'). Laid BY PROGRAM, IN A SANDBOX (cutbox-door.mjs). By AI agents, Wed Nov 11 2026. No macro, syntax, notation, axiom, sorry.
-/
import Derived.Test.YbulkrkuFmtRows
import GoSem.ClaimSeven
namespace Go.Proofs.YbulkrkuFmt
namespace Rows

/-- THE TOLD CARD OF 'wire.LawS0891AEncode'. -/
def lawS0891AEncodeCard : Claim7 := { stood := { row := lawS0891AEncodeRow, standIns := [], harness := (true, "0092342a141053b53a2446924d17f46ef5b30a60825a4bc95f8fb6fd4f01a38a"), looks := true }, told := true, goes := false }
def LawS0891AEncodeToldSaid : Prop := Claim7.holds Ybaf.pinned (.plain (OpenSpec.ofChange lawS0891AEncodeSpec)) lawS0891AEncodeCard
/-- ITS FALSE NEIGHBOUR. Refute it at one input. -/
def LawS0891AEncodeToldWrongFalsely : Prop := Claim7.holds Ybaf.pinned (.plain (OpenSpec.ofChange lawS0891AEncodeWrong)) lawS0891AEncodeCard

/-- THE TOLD CARD OF 'wire.LawS0891ARoundTrip'. -/
def lawS0891ARoundTripCard : Claim7 := { stood := { row := lawS0891ARoundTripRow, standIns := [], harness := (true, "0092342a141053b53a2446924d17f46ef5b30a60825a4bc95f8fb6fd4f01a38a"), looks := true }, told := true, goes := false }
def LawS0891ARoundTripToldSaid : Prop := Claim7.holds Ybaf.pinned (.plain (OpenSpec.ofChange lawS0891ARoundTripSpec)) lawS0891ARoundTripCard
/-- ITS FALSE NEIGHBOUR. Refute it at one input. -/
def LawS0891ARoundTripToldWrongFalsely : Prop := Claim7.holds Ybaf.pinned (.plain (OpenSpec.ofChange lawS0891ARoundTripWrong)) lawS0891ARoundTripCard

/-- THE TOLD CARD OF 'wire.LawS0891ADecode'. -/
def lawS0891ADecodeCard : Claim7 := { stood := { row := lawS0891ADecodeRow, standIns := [], harness := (true, "0092342a141053b53a2446924d17f46ef5b30a60825a4bc95f8fb6fd4f01a38a"), looks := true }, told := true, goes := false }
def LawS0891ADecodeToldSaid : Prop := Claim7.holds Ybaf.pinned (.plain (OpenSpec.ofChange lawS0891ADecodeSpec)) lawS0891ADecodeCard
/-- ITS FALSE NEIGHBOUR. Refute it at one input. -/
def LawS0891ADecodeToldWrongFalsely : Prop := Claim7.holds Ybaf.pinned (.plain (OpenSpec.ofChange lawS0891ADecodeWrong)) lawS0891ADecodeCard
end Rows
end Go.Proofs.YbulkrkuFmt
