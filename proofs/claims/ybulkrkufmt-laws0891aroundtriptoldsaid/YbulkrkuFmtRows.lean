/-
  No cell of these rows narrows 'for every input' (looked for: loops, veiled, ifaces, maps, wideKeys, modest, calm, conditions, laid).
  DERIVED. THE GIVEN ROWS OF THIS SEAT. 3 by the template 'for every input the law returns true; each argument reads behind the call as it read before'; 0 by the template 'total and deterministic' (their statements: YbulkrkuFmtTotals.lean).
  GIVEN WITH THE SEED: the statements are not yours to turn. If you find one false, say at which input.
  Laid BY PROGRAM, IN A SANDBOX (cutbox-rows.mjs): the forced cells as the released guide's own fill.sh prints them over the translation abc921ce140dfbfc… (all of the seat's roots in one cut). By AI agents, Wed Nov 11 2026. No macro, syntax, notation, axiom, sorry.
-/
import Derived.Test.YbulkrkuFmtChecked
import GoSem.Claim
import GoSem.ClaimJoined
import GoSem.ClaimMapViews
import Derived.JoinedTies
import Derived.KernelRfl
namespace Go.Proofs.YbulkrkuFmt
/- THE CELL 'sum', in the pinned program and in every row, IS THE sha256 OF THE DUMP (.gsa) THAT YbulkrkuFmtProg.lean LOADS. Nothing in Lean hashes anything: it is a label: what it is worth is what the hold of that sum in a sandbox is worth. -/
noncomputable def Ybaf.pinned : Pinned := { name := "ybulkrkufmt", sum := "abc921ce140dfbfc019e64d0a62e68e308d58f3be8d1424dd92842373515d796", checked := Ybaf.checked }
namespace Rows
def none {H : Type} : Left H := { results := [], args := [] }

/-- 'wire.LawS0891AEncode': WHATEVER THE INPUT: true; the input reads as it did. -/
def lawS0891AEncodeSpec : ChangeSpec := { name := "lawS0891AEncode", fn := fun _ => fun
  | [d1, d2] => { results := [.lit (.bool true)], args := [d1, d2] }
  | _ => none }
def lawS0891AEncodeRow : OpenClaim := { program := "ybulkrkufmt", sum := "abc921ce140dfbfc019e64d0a62e68e308d58f3be8d1424dd92842373515d796", func := "example.com/peerwood/peerwood/wire.LawS0891AEncode", spec := "lawS0891AEncode", stops := ["fmt.errorf"], inPlace := ["fmt.errorf"], unfollowed := true, recurses := true, apart := false }
/-- NO THEOREM (fmt's text is open here; it may be false): for the released tool's asking of the row's closed facts alone. THE STATEMENT IS 'LawS0891AEncodeToldSaid' (YbulkrkuFmtCards.lean). -/
def LawS0891AEncodeFormAsk : Prop := lawS0891AEncodeRow.holds Ybaf.pinned (OpenSpec.ofChange lawS0891AEncodeSpec)

/-- ITS FALSE NEIGHBOUR: 'it returns false'. Refute it at one input. -/
def lawS0891AEncodeWrong : ChangeSpec := { name := "lawS0891AEncode", fn := fun _ => fun
  | [d1, d2] => { results := [.lit (.bool false)], args := [d1, d2] }
  | _ => none }
def LawS0891AEncodeWrongFormAsk : Prop := lawS0891AEncodeRow.holds Ybaf.pinned (OpenSpec.ofChange lawS0891AEncodeWrong)

/-- 'wire.LawS0891ARoundTrip': WHATEVER THE INPUT: true; the input reads as it did. -/
def lawS0891ARoundTripSpec : ChangeSpec := { name := "lawS0891ARoundTrip", fn := fun _ => fun
  | [d1, d2] => { results := [.lit (.bool true)], args := [d1, d2] }
  | _ => none }
def lawS0891ARoundTripRow : OpenClaim := { program := "ybulkrkufmt", sum := "abc921ce140dfbfc019e64d0a62e68e308d58f3be8d1424dd92842373515d796", func := "example.com/peerwood/peerwood/wire.LawS0891ARoundTrip", spec := "lawS0891ARoundTrip", stops := ["fmt.errorf"], inPlace := ["fmt.errorf"], unfollowed := true, recurses := true, apart := false }
/-- NO THEOREM (fmt's text is open here; it may be false): for the released tool's asking of the row's closed facts alone. THE STATEMENT IS 'LawS0891ARoundTripToldSaid' (YbulkrkuFmtCards.lean). -/
def LawS0891ARoundTripFormAsk : Prop := lawS0891ARoundTripRow.holds Ybaf.pinned (OpenSpec.ofChange lawS0891ARoundTripSpec)

/-- ITS FALSE NEIGHBOUR: 'it returns false'. Refute it at one input. -/
def lawS0891ARoundTripWrong : ChangeSpec := { name := "lawS0891ARoundTrip", fn := fun _ => fun
  | [d1, d2] => { results := [.lit (.bool false)], args := [d1, d2] }
  | _ => none }
def LawS0891ARoundTripWrongFormAsk : Prop := lawS0891ARoundTripRow.holds Ybaf.pinned (OpenSpec.ofChange lawS0891ARoundTripWrong)

/-- 'wire.LawS0891ADecode': WHATEVER THE INPUT: true; the input reads as it did. -/
def lawS0891ADecodeSpec : ChangeSpec := { name := "lawS0891ADecode", fn := fun _ => fun
  | [d1, d2] => { results := [.lit (.bool true)], args := [d1, d2] }
  | _ => none }
def lawS0891ADecodeRow : OpenClaim := { program := "ybulkrkufmt", sum := "abc921ce140dfbfc019e64d0a62e68e308d58f3be8d1424dd92842373515d796", func := "example.com/peerwood/peerwood/wire.LawS0891ADecode", spec := "lawS0891ADecode", stops := ["fmt.errorf"], inPlace := ["fmt.errorf"], unfollowed := true, recurses := true, apart := false }
/-- NO THEOREM (fmt's text is open here; it may be false): for the released tool's asking of the row's closed facts alone. THE STATEMENT IS 'LawS0891ADecodeToldSaid' (YbulkrkuFmtCards.lean). -/
def LawS0891ADecodeFormAsk : Prop := lawS0891ADecodeRow.holds Ybaf.pinned (OpenSpec.ofChange lawS0891ADecodeSpec)

/-- ITS FALSE NEIGHBOUR: 'it returns false'. Refute it at one input. -/
def lawS0891ADecodeWrong : ChangeSpec := { name := "lawS0891ADecode", fn := fun _ => fun
  | [d1, d2] => { results := [.lit (.bool false)], args := [d1, d2] }
  | _ => none }
def LawS0891ADecodeWrongFormAsk : Prop := lawS0891ADecodeRow.holds Ybaf.pinned (OpenSpec.ofChange lawS0891ADecodeWrong)

end Rows
end Go.Proofs.YbulkrkuFmt
